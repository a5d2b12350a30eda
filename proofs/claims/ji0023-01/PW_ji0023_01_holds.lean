import PyProof.Rows.All
import Wide.All
import OpenK.AllK
import Wide.FinOn
import Lean
import PySem.Challenge.RW_ji0023_01
set_option Elab.async false
set_option bootstrap.genMatcherCode false
set_option genSizeOf false
section
open PySem PySem.W PySem.Calls PyProof.Rows
set_option maxRecDepth 100000
namespace Mine

/-- the identifiers of the walked defs -/
inductive N where
  | kCOMMENT
  | kDELIMITER
  | kDNSException
  | kDnsSyntaxError
  | kEOF
  | kEOL
  | kIDENTIFIER
  | kLAW_LABELS
  | kLAW_ROW
  | kLAW_SIGNS
  | kQUOTED_STRING
  | kToken
  | kTokenizer
  | kUnexpectedEnd
  | kUngetBufferFull
  | kWHITESPACE
  | k_DELIMITERS
  | k_QUOTING_DELIMITERS
  | k_Text
  | k__init__
  | k_get_char
  | k_law_body
  | k_law_full
  | k_law_next
  | k_law_past
  | k_law_pieces
  | k_law_row
  | k_law_text
  | k_law_told
  | k_unget_char
  | kafter_cr
  | kappend
  | kat
  | kback
  | kbegin
  | kc
  | kchr
  | kcomment
  | kdecode
  | kdeed
  | kdelimiters
  | kdepth
  | kencode
  | kend
  | kends
  | keof
  | kescaped
  | kf
  | kfile
  | kfilename
  | kget
  | khas_escape
  | kheld
  | kinside
  | kis_comment
  | kis_whitespace
  | kisinstance
  | kkind
  | klabel
  | klast
  | klaw
  | klead
  | klen
  | kline_number
  | klines
  | klist
  | kmany
  | kmin
  | kmultiline
  | knote
  | knumber
  | knumbers
  | kpart
  | kpieces
  | kplace
  | kquoting
  | krange
  | kread
  | kreader
  | krow
  | ksaid
  | kscript
  | kself
  | ksign
  | kskip_whitespace
  | kskipped
  | ksource
  | kstart
  | kstop
  | kstoppers
  | kstr
  | ktext
  | ktoken
  | kttype
  | kunget
  | kungotten_char
  | kungotten_token
  | kutoken
  | kvalue
  | kverdict
  | kwant_comment
  | kwant_leading
  | kwhere
  | kword
deriving DecidableEq
noncomputable def nm : N → Str
  | .kCOMMENT => Str.ofString "COMMENT"
  | .kDELIMITER => Str.ofString "DELIMITER"
  | .kDNSException => Str.ofString "DNSException"
  | .kDnsSyntaxError => Str.ofString "DnsSyntaxError"
  | .kEOF => Str.ofString "EOF"
  | .kEOL => Str.ofString "EOL"
  | .kIDENTIFIER => Str.ofString "IDENTIFIER"
  | .kLAW_LABELS => Str.ofString "LAW_LABELS"
  | .kLAW_ROW => Str.ofString "LAW_ROW"
  | .kLAW_SIGNS => Str.ofString "LAW_SIGNS"
  | .kQUOTED_STRING => Str.ofString "QUOTED_STRING"
  | .kToken => Str.ofString "Token"
  | .kTokenizer => Str.ofString "Tokenizer"
  | .kUnexpectedEnd => Str.ofString "UnexpectedEnd"
  | .kUngetBufferFull => Str.ofString "UngetBufferFull"
  | .kWHITESPACE => Str.ofString "WHITESPACE"
  | .k_DELIMITERS => Str.ofString "_DELIMITERS"
  | .k_QUOTING_DELIMITERS => Str.ofString "_QUOTING_DELIMITERS"
  | .k_Text => Str.ofString "_Text"
  | .k__init__ => Str.ofString "__init__"
  | .k_get_char => Str.ofString "_get_char"
  | .k_law_body => Str.ofString "_law_body"
  | .k_law_full => Str.ofString "_law_full"
  | .k_law_next => Str.ofString "_law_next"
  | .k_law_past => Str.ofString "_law_past"
  | .k_law_pieces => Str.ofString "_law_pieces"
  | .k_law_row => Str.ofString "_law_row"
  | .k_law_text => Str.ofString "_law_text"
  | .k_law_told => Str.ofString "_law_told"
  | .k_unget_char => Str.ofString "_unget_char"
  | .kafter_cr => Str.ofString "after_cr"
  | .kappend => Str.ofString "append"
  | .kat => Str.ofString "at"
  | .kback => Str.ofString "back"
  | .kbegin => Str.ofString "begin"
  | .kc => Str.ofString "c"
  | .kchr => Str.ofString "chr"
  | .kcomment => Str.ofString "comment"
  | .kdecode => Str.ofString "decode"
  | .kdeed => Str.ofString "deed"
  | .kdelimiters => Str.ofString "delimiters"
  | .kdepth => Str.ofString "depth"
  | .kencode => Str.ofString "encode"
  | .kend => Str.ofString "end"
  | .kends => Str.ofString "ends"
  | .keof => Str.ofString "eof"
  | .kescaped => Str.ofString "escaped"
  | .kf => Str.ofString "f"
  | .kfile => Str.ofString "file"
  | .kfilename => Str.ofString "filename"
  | .kget => Str.ofString "get"
  | .khas_escape => Str.ofString "has_escape"
  | .kheld => Str.ofString "held"
  | .kinside => Str.ofString "inside"
  | .kis_comment => Str.ofString "is_comment"
  | .kis_whitespace => Str.ofString "is_whitespace"
  | .kisinstance => Str.ofString "isinstance"
  | .kkind => Str.ofString "kind"
  | .klabel => Str.ofString "label"
  | .klast => Str.ofString "last"
  | .klaw => Str.ofString "law"
  | .klead => Str.ofString "lead"
  | .klen => Str.ofString "len"
  | .kline_number => Str.ofString "line_number"
  | .klines => Str.ofString "lines"
  | .klist => Str.ofString "list"
  | .kmany => Str.ofString "many"
  | .kmin => Str.ofString "min"
  | .kmultiline => Str.ofString "multiline"
  | .knote => Str.ofString "note"
  | .knumber => Str.ofString "number"
  | .knumbers => Str.ofString "numbers"
  | .kpart => Str.ofString "part"
  | .kpieces => Str.ofString "pieces"
  | .kplace => Str.ofString "place"
  | .kquoting => Str.ofString "quoting"
  | .krange => Str.ofString "range"
  | .kread => Str.ofString "read"
  | .kreader => Str.ofString "reader"
  | .krow => Str.ofString "row"
  | .ksaid => Str.ofString "said"
  | .kscript => Str.ofString "script"
  | .kself => Str.ofString "self"
  | .ksign => Str.ofString "sign"
  | .kskip_whitespace => Str.ofString "skip_whitespace"
  | .kskipped => Str.ofString "skipped"
  | .ksource => Str.ofString "source"
  | .kstart => Str.ofString "start"
  | .kstop => Str.ofString "stop"
  | .kstoppers => Str.ofString "stoppers"
  | .kstr => Str.ofString "str"
  | .ktext => Str.ofString "text"
  | .ktoken => Str.ofString "token"
  | .kttype => Str.ofString "ttype"
  | .kunget => Str.ofString "unget"
  | .kungotten_char => Str.ofString "ungotten_char"
  | .kungotten_token => Str.ofString "ungotten_token"
  | .kutoken => Str.ofString "utoken"
  | .kvalue => Str.ofString "value"
  | .kverdict => Str.ofString "verdict"
  | .kwant_comment => Str.ofString "want_comment"
  | .kwant_leading => Str.ofString "want_leading"
  | .kwhere => Str.ofString "where"
  | .kword => Str.ofString "word"
noncomputable def allN : List N := [.kCOMMENT, .kDELIMITER, .kDNSException, .kDnsSyntaxError, .kEOF, .kEOL, .kIDENTIFIER, .kLAW_LABELS, .kLAW_ROW, .kLAW_SIGNS, .kQUOTED_STRING, .kToken, .kTokenizer, .kUnexpectedEnd, .kUngetBufferFull, .kWHITESPACE, .k_DELIMITERS, .k_QUOTING_DELIMITERS, .k_Text, .k__init__, .k_get_char, .k_law_body, .k_law_full, .k_law_next, .k_law_past, .k_law_pieces, .k_law_row, .k_law_text, .k_law_told, .k_unget_char, .kafter_cr, .kappend, .kat, .kback, .kbegin, .kc, .kchr, .kcomment, .kdecode, .kdeed, .kdelimiters, .kdepth, .kencode, .kend, .kends, .keof, .kescaped, .kf, .kfile, .kfilename, .kget, .khas_escape, .kheld, .kinside, .kis_comment, .kis_whitespace, .kisinstance, .kkind, .klabel, .klast, .klaw, .klead, .klen, .kline_number, .klines, .klist, .kmany, .kmin, .kmultiline, .knote, .knumber, .knumbers, .kpart, .kpieces, .kplace, .kquoting, .krange, .kread, .kreader, .krow, .ksaid, .kscript, .kself, .ksign, .kskip_whitespace, .kskipped, .ksource, .kstart, .kstop, .kstoppers, .kstr, .ktext, .ktoken, .kttype, .kunget, .kungotten_char, .kungotten_token, .kutoken, .kvalue, .kverdict, .kwant_comment, .kwant_leading, .kwhere, .kword]
-- names: nm_kCOMMENT, nm_kDELIMITER, nm_kDNSException, nm_kDnsSyntaxError, nm_kEOF, nm_kEOL, nm_kIDENTIFIER, nm_kLAW_LABELS, nm_kLAW_ROW, nm_kLAW_SIGNS, nm_kQUOTED_STRING, nm_kToken, nm_kTokenizer, nm_kUnexpectedEnd, nm_kUngetBufferFull, nm_kWHITESPACE, nm_k_DELIMITERS, nm_k_QUOTING_DELIMITERS, nm_k_Text, nm_k__init__, nm_k_get_char, nm_k_law_body, nm_k_law_full, nm_k_law_next, nm_k_law_past, nm_k_law_pieces, nm_k_law_row, nm_k_law_text, nm_k_law_told, nm_k_unget_char, nm_kafter_cr, nm_kappend, nm_kat, nm_kback, nm_kbegin, nm_kc, nm_kchr, nm_kcomment, nm_kdecode, nm_kdeed, nm_kdelimiters, nm_kdepth, nm_kencode, nm_kend, nm_kends, nm_keof, nm_kescaped, nm_kf, nm_kfile, nm_kfilename, nm_kget, nm_khas_escape, nm_kheld, nm_kinside, nm_kis_comment, nm_kis_whitespace, nm_kisinstance, nm_kkind, nm_klabel, nm_klast, nm_klaw, nm_klead, nm_klen, nm_kline_number, nm_klines, nm_klist, nm_kmany, nm_kmin, nm_kmultiline, nm_knote, nm_knumber, nm_knumbers, nm_kpart, nm_kpieces, nm_kplace, nm_kquoting, nm_krange, nm_kread, nm_kreader, nm_krow, nm_ksaid, nm_kscript, nm_kself, nm_ksign, nm_kskip_whitespace, nm_kskipped, nm_ksource, nm_kstart, nm_kstop, nm_kstoppers, nm_kstr, nm_ktext, nm_ktoken, nm_kttype, nm_kunget, nm_kungotten_char, nm_kungotten_token, nm_kutoken, nm_kvalue, nm_kverdict, nm_kwant_comment, nm_kwant_leading, nm_kwhere, nm_kword,

noncomputable def unN (x : Str) : Option N := allN.find? fun n => nm n == x
set_option maxHeartbeats 4000000 in
theorem unN_nm (n : N) : unN (nm n) = some n := by
  have : (allN.all fun n => unN (nm n) == some n) = true := by decide +kernel
  have hn : n ∈ allN := by cases n <;> decide
  exact beq_iff_eq.mp (List.all_eq_true.mp this n hn)
theorem nm_inj {a b : N} (h : nm a = nm b) : a = b := by
  have := unN_nm a
  rw [h, unN_nm b] at this
  exact (Option.some.inj this).symm
theorem nm_beq (a b : N) : (nm a == nm b) = (a == b) := by
  by_cases h : a = b
  · subst h; rw [beq_self_eq_true, beq_self_eq_true]
  · have h' : nm a ≠ nm b := fun e => h (nm_inj e)
    rw [beq_eq_false_iff_ne.mpr h, beq_eq_false_iff_ne.mpr h']
end Mine

end
section
open PySem PySem.W PySem.Calls PyProof.Rows
set_option maxRecDepth 100000
namespace Mine

/-- plain data that the law's text handles; a tuple is a tree, other objects stand by their address -/
inductive V where
  | none
  | bool (b : Bool)
  | int (i : Int)
  | str (l : List Nat)
  | bytes (b : Array UInt8)
  | tup (vs : List V)
  | ref (a : Addr)
  | bi (id : String)
  | ty (n : String)
deriving Inhabited

mutual
noncomputable def VR (h : Heap) : V → Value → Prop
  | .none, x => x = .none
  | .bool b, x => x = .bool b
  | .int i, x => ∃ t, x = .int i t
  | .str l, x => ∃ t, x = .str ⟨l.toArray⟩ t
  | .bytes b, x => ∃ t, x = .bytes b t
  | .tup vs, x => ∃ a xs, x = .ref a ∧ IsTup h a xs.toArray ∧ VRs h vs xs
  | .ref a, x => x = .ref a
  | .bi i, x => x = .builtin i
  | .ty n, x => x = .type n
noncomputable def VRs (h : Heap) : List V → List Value → Prop
  | [], xs => xs = []
  | v :: vs, xs => ∃ y ys, xs = y :: ys ∧ VR h v y ∧ VRs h vs ys
end

/-- tuples stay as they are -/
noncomputable def Evo (h h' : Heap) : Prop := ∀ a xs, IsTup h a xs → IsTup h' a xs
theorem Evo.refl (h : Heap) : Evo h h := fun _ _ x => x
theorem Evo.trans {h h' h'' : Heap} (x : Evo h h') (y : Evo h' h'') : Evo h h'' := fun a xs z => y a xs (x a xs z)
theorem Evo.of_keep {h h' : Heap} (k : ∀ b o, h.get? b = some o → h'.get? b = some o) : Evo h h' :=
  fun a _ ⟨o, e, r⟩ => ⟨o, k a o e, r⟩
theorem Evo.push (h : Heap) (o : Obj) : Evo h (h.push o) := .of_keep fun _ _ e => Heap.get?_push_of_some o e

mutual
theorem VR.evo {h h' : Heap} (k : Evo h h') : ∀ {v : V} {x : Value}, VR h v x → VR h' v x
  | .none, _, e => e
  | .bool _, _, e => e
  | .int _, _, e => e
  | .str _, _, e => e
  | .bytes _, _, e => e
  | .tup _, _, ⟨a, xs, e, t, r⟩ => ⟨a, xs, e, k a _ t, VRs.evo k r⟩
  | .ref _, _, e => e
  | .bi _, _, e => e
  | .ty _, _, e => e
theorem VRs.evo {h h' : Heap} (k : Evo h h') : ∀ {vs : List V} {xs : List Value}, VRs h vs xs → VRs h' vs xs
  | [], _, e => e
  | _ :: _, _, ⟨y, ys, e, r, rs⟩ => ⟨y, ys, e, VR.evo k r, VRs.evo k rs⟩
end

theorem VRs.length {h : Heap} : ∀ {vs : List V} {xs : List Value}, VRs h vs xs → xs.length = vs.length
  | [], _, e => by cases e; rfl
  | _ :: _, _, ⟨_, _, e, _, rs⟩ => by subst e; simp [VRs.length rs]
theorem VRs.get {h : Heap} : ∀ {vs : List V} {xs : List Value}, VRs h vs xs → ∀ {i : Nat} {v : V}, vs[i]? = some v → ∃ x, xs[i]? = some x ∧ VR h v x
  | [], _, _, i, v, e => by simp at e
  | _ :: _, _, ⟨y, ys, e, r, rs⟩, 0, v, ev => by subst e; simp at ev; subst ev; exact ⟨y, by simp, r⟩
  | _ :: _, _, ⟨y, ys, e, r, rs⟩, i + 1, v, ev => by
    subst e
    obtain ⟨x, hx, hr⟩ := VRs.get rs (i := i) (v := v) (by simpa using ev)
    exact ⟨x, by simpa using hx, hr⟩
theorem VRs.append {h : Heap} : ∀ {vs : List V} {xs : List Value} {us : List V} {ys : List Value}, VRs h vs xs → VRs h us ys → VRs h (vs ++ us) (xs ++ ys)
  | [], _, _, _, e, q => by cases e; exact q
  | _ :: _, _, _, _, ⟨y, ys, e, r, rs⟩, q => by subst e; exact ⟨y, _, rfl, r, VRs.append rs q⟩
theorem VRs.set {h : Heap} : ∀ {vs : List V} {xs : List Value}, VRs h vs xs → ∀ {i : Nat} {v : V} {x : Value}, VR h v x → VRs h (vs.set i v) (xs.set i x)
  | [], _, e, _, _, _, _ => by cases e; simp [VRs]
  | _ :: _, _, ⟨y, ys, e, r, rs⟩, 0, v, x, q => by subst e; exact ⟨x, ys, rfl, q, rs⟩
  | _ :: _, _, ⟨y, ys, e, r, rs⟩, i + 1, v, x, q => by subst e; exact ⟨y, _, rfl, r, VRs.set rs q⟩
theorem VRs.drop {h : Heap} : ∀ {vs : List V} {xs : List Value} (n : Nat), VRs h vs xs → VRs h (vs.drop n) (xs.drop n)
  | _, _, 0, r => by simpa using r
  | [], _, _ + 1, e => by cases e; simp [VRs]
  | _ :: _, _, n + 1, ⟨y, ys, e, _, rs⟩ => by subst e; simpa using VRs.drop n rs
theorem VRs.take {h : Heap} : ∀ {vs : List V} {xs : List Value} (n : Nat), VRs h vs xs → VRs h (vs.take n) (xs.take n)
  | _, _, 0, _ => by simp [VRs]
  | [], _, _ + 1, e => by cases e; simp [VRs]
  | _ :: _, _, n + 1, ⟨y, ys, e, r, rs⟩ => by subst e; exact ⟨y, _, rfl, r, VRs.take n rs⟩

/-- an object that the call may change -/
inductive O where
  | inst (C : Addr) (fs : List (N × V))
  | list (vs : List V)
  | cell (v : Option V)
  | liter (l : Addr) (i : Nat)
  | riter (cur rem : Int)
  | range (n : Int)

noncomputable abbrev Hp := Addr → Option O
noncomputable def Hp.upd (H : Hp) (a : Addr) (o : O) : Hp := fun b => if b = a then some o else H b

noncomputable def lk : List (N × V) → N → Option V
  | [], _ => none
  | p :: r, n => if n = p.1 then some p.2 else lk r n
noncomputable def put : List (N × V) → N → V → List (N × V)
  | [], x, v => [(x, v)]
  | p :: r, x, v => if x = p.1 then (x, v) :: r else p :: put r x v
theorem lk_put (l : List (N × V)) (x y : N) (v : V) : lk (put l x v) y = if y = x then some v else lk l y := by
  induction l with
  | nil => rfl
  | cons p r ih =>
    obtain ⟨z, u⟩ := p
    unfold put
    by_cases hz : x = z
    · subst hz
      simp only [if_true]
      unfold lk
      by_cases h : y = x <;> simp [h]
    · simp only [hz, if_false]
      unfold lk
      rw [ih]
      by_cases h : y = z
      · subst h
        have : y ≠ x := fun e => hz e.symm
        simp [this]
      · simp [h]
theorem mem_put {l : List (N × V)} {x : N} {v : V} {p : N × V} (h : p ∈ l) : (∃ v', (p.1, v') ∈ put l x v) := by
  induction l with
  | nil => cases h
  | cons q r ih =>
    unfold put
    by_cases hz : x = q.1
    · simp only [hz, if_true]
      rcases List.mem_cons.mp h with rfl | h
      · exact ⟨v, List.mem_cons_self⟩
      · exact ⟨p.2, List.mem_cons_of_mem _ h⟩
    · simp only [hz, if_false]
      rcases List.mem_cons.mp h with rfl | h
      · exact ⟨p.2, List.mem_cons_self⟩
      · obtain ⟨v', hv⟩ := ih h; exact ⟨v', List.mem_cons_of_mem _ hv⟩
theorem mem_put_self {l : List (N × V)} {x : N} {v : V} : (x, v) ∈ put l x v := by
  induction l with
  | nil => exact List.mem_cons_self
  | cons q r ih =>
    unfold put
    by_cases hz : x = q.1
    · simp only [hz, if_true]; exact List.mem_cons_self
    · simp only [hz, if_false]; exact List.mem_cons_of_mem _ ih
theorem lk_none {l : List (N × V)} {n : N} (h : lk l n = none) : ∀ p ∈ l, p.1 ≠ n := by
  induction l with
  | nil => intro p hp; cases hp
  | cons q r ih =>
    intro p hp
    unfold lk at h
    split at h
    · cases h
    · rename_i hne
      rcases List.mem_cons.mp hp with rfl | hp
      · exact fun e => hne e.symm
      · exact ih h p hp

noncomputable def FieldsR (h : Heap) (fs : List (N × V)) (m : Str → Option Value) : Prop :=
  (∀ n v, lk fs n = some v → ∃ u, m (nm n) = some u ∧ VR h v u) ∧ ∀ x, (∀ p ∈ fs, nm p.1 ≠ x) → m x = none
noncomputable def LocR (h : Heap) (l : List (N × V)) (m : Str → Option Value) : Prop := ∀ n v, lk l n = some v → ∃ u, m (nm n) = some u ∧ VR h v u

theorem FieldsR.none {h : Heap} {fs : List (N × V)} {m : Str → Option Value} {n : N} (r : FieldsR h fs m) (e : lk fs n = .none) : m (nm n) = .none :=
  r.2 _ fun p hp q => lk_none e p hp (nm_inj q)
theorem FieldsR.evo {h h' : Heap} {fs : List (N × V)} {m : Str → Option Value} (k : Evo h h') (r : FieldsR h fs m) : FieldsR h' fs m :=
  ⟨fun n v e => let ⟨u, e', q⟩ := r.1 n v e; ⟨u, e', q.evo k⟩, r.2⟩
theorem LocR.evo {h h' : Heap} {l : List (N × V)} {m : Str → Option Value} (k : Evo h h') (r : LocR h l m) : LocR h' l m :=
  fun n v e => let ⟨u, e', q⟩ := r n v e; ⟨u, e', q.evo k⟩
theorem LocR.cons {h : Heap} {l : List (N × V)} {m : Str → Option Value} {x : N} {v : V} {u : Value} (r : LocR h l m) (hv : VR h v u) :
    LocR h ((x, v) :: l) (fun y => if y = nm x then some u else m y) := by
  intro y w e
  unfold lk at e
  by_cases h : y = x
  · subst h; simp at e; subst e; exact ⟨u, by simp, hv⟩
  · simp only [h, if_false] at e
    obtain ⟨u', e', q⟩ := r y w e
    exact ⟨u', by simp only [e']; rw [if_neg fun z => h (nm_inj z)], q⟩
theorem FieldsR.put {h : Heap} {l : List (N × V)} {m : Str → Option Value} {x : N} {v : V} {u : Value} (r : FieldsR h l m) (hv : VR h v u) :
    FieldsR h (put l x v) (fun y => if y = nm x then some u else m y) := by
  refine ⟨fun y w e => ?_, fun y hy => ?_⟩
  · rw [lk_put] at e
    by_cases h : y = x
    · subst h; simp at e; subst e; exact ⟨u, by simp, hv⟩
    · simp only [h, if_false] at e
      obtain ⟨u', e', q⟩ := r.1 y w e
      exact ⟨u', by simp only [e']; rw [if_neg fun z => h (nm_inj z)], q⟩
  · have h1 : y ≠ nm x := fun e => hy _ mem_put_self e.symm
    simp only [h1, if_false]
    exact r.2 y fun p hp e => by
      obtain ⟨v', hv'⟩ := mem_put (x := x) (v := v) hp
      exact hy _ hv' e

/-- how an object stands in the heap; F: the frames' addresses; base: what may not be touched -/
noncomputable def OR (base : Heap) (F : List Addr) (h : Heap) (a : Addr) : O → Prop
  | .inst C fs => ∃ o d m, h.get? a = some o ∧ o.cls = .ref C ∧ o.data = .plain ∧ o.dict = some d ∧ d ∉ F ∧ base.get? d = none ∧ h.Ns1 d m ∧ FieldsR h fs m
  | .list vs => ∃ o xs n, h.get? a = some o ∧ o.cls = .type "list" ∧ o.data = .seq xs.toArray n ∧ o.dict = none ∧ VRs h vs xs
  | .cell v => ∃ o, h.get? a = some o ∧ match v with
      | some v => ∃ u, o.data = .cell (some u) ∧ VR h v u
      | none => o.data = .cell none
  | .liter l i => h.IsListIter a l i
  | .riter cur rem => IsRangeIter h a cur rem 1
  | .range n => ∃ t u v, IsRange h a 0 n 1 t u v

structure Cx where
  prog : Program
  w : World
  K : Frag
  A : Around
  env : Env
  base : Heap
  os : OsState
  h0 : Heap
  outer : List (Env × (Str → Option Value))
  E : Value → Shared → Prop
  X : Addr → Hp → Prop

noncomputable def Cx.frames (c : Cx) : List Addr := c.env.locals :: c.outer.map (·.1.locals)

structure RelH (c : Cx) (H : Hp) (s : Shared) : Prop where
  keep : c.base.StaysIn s.heap
  outs : ∀ p ∈ c.outer, s.heap.Ns p.1.locals p.2
  cur : ∃ m, s.heap.Ns c.env.locals m
  new : ∀ a o, H a = some o → c.base.get? a = none
  objs : ∀ a o, H a = some o → OR c.base c.frames s.heap a o
  dinj : ∀ a a' C fs C' fs' o o' d, H a = some (.inst C fs) → H a' = some (.inst C' fs') → s.heap.get? a = some o → s.heap.get? a' = some o' → o.dict = some d → o'.dict = some d → a = a'
  evo0 : Evo c.h0 s.heap
  gens : s.gens = #[]
  os : s.os = c.os

structure St where
  loc : List (N × V)
  H : Hp

structure Rel (c : Cx) (σ : St) (s : Shared) : Prop extends RelH c σ.H s where
  locs : ∃ m, s.heap.Ns c.env.locals m ∧ LocR s.heap σ.loc m

/-- what must hold of the context itself -/
structure Cx.Fine (c : Cx) : Prop where
  nodup : c.frames.Nodup
  newF : ∀ L ∈ c.frames, c.base.get? L = none

theorem OR.keep {base : Heap} {F : List Addr} {h h' : Heap} {a : Addr} {o : O} (k : ∀ b ob, h.get? b = some ob → h'.get? b = some ob) (r : OR base F h a o) : OR base F h' a o := by
  have ev := Evo.of_keep k
  cases o with
  | inst C fs =>
    obtain ⟨o, d, m, h1, h2, h3, h4, h5, h6, h7, h8⟩ := r
    exact ⟨o, d, m, k _ _ h1, h2, h3, h4, h5, h6, h7.keeps k, h8.evo ev⟩
  | list vs =>
    obtain ⟨o, xs, n, h1, h2, h3, hdn, h4⟩ := r
    exact ⟨o, xs, n, k _ _ h1, h2, h3, hdn, h4.evo ev⟩
  | cell v =>
    obtain ⟨o, h1, h3⟩ := r
    refine ⟨o, k _ _ h1, ?_⟩
    cases v with
    | none => exact h3
    | some v => obtain ⟨u, e, q⟩ := h3; exact ⟨u, e, q.evo ev⟩
  | liter l i => obtain ⟨o, h1, h3⟩ := r; exact ⟨o, k _ _ h1, h3⟩
  | riter x y => exact k _ _ r
  | range n => obtain ⟨t, u, v, r⟩ := r; exact ⟨t, u, v, k _ _ r⟩

/-- the object at `a` and what hangs on it is not changed when only `b` is -/
theorem OR.change {base : Heap} {F : List Addr} {h h' : Heap} {a b : Addr} {o : O} (ev : Evo h h') (k : ∀ x ob, x ≠ b → h.get? x = some ob → h'.get? x = some ob)
    (hab : a ≠ b) (hd : ∀ ob d, h.get? a = some ob → ob.dict = some d → (∃ C fs, o = .inst C fs) → d ≠ b) (r : OR base F h a o) : OR base F h' a o := by
  cases o with
  | inst C fs =>
    obtain ⟨o, d, m, h1, h2, h3, h4, h5, h6, h7, h8⟩ := r
    exact ⟨o, d, m, k _ _ hab h1, h2, h3, h4, h5, h6, h7.at (fun ob e => k _ _ (hd o d h1 h4 ⟨C, fs, rfl⟩) e), h8.evo ev⟩
  | list vs =>
    obtain ⟨o, xs, n, h1, h2, h3, hdn, h4⟩ := r
    exact ⟨o, xs, n, k _ _ hab h1, h2, h3, hdn, h4.evo ev⟩
  | cell v =>
    obtain ⟨o, h1, h3⟩ := r
    refine ⟨o, k _ _ hab h1, ?_⟩
    cases v with
    | none => exact h3
    | some v => obtain ⟨u, e, q⟩ := h3; exact ⟨u, e, q.evo ev⟩
  | liter l i => obtain ⟨o, h1, h3⟩ := r; exact ⟨o, k _ _ hab h1, h3⟩
  | riter x y => exact k _ _ hab r
  | range n => obtain ⟨t, u, v, r⟩ := r; exact ⟨t, u, v, k _ _ hab r⟩

theorem OR.exists {base : Heap} {F : List Addr} {h : Heap} {a : Addr} {o : O} (r : OR base F h a o) : ∃ ob, h.get? a = some ob ∧ (∀ es n, ob.data ≠ .dict es n) ∧ (ob.cls ≠ .type "tuple" ∨ ∀ xs n, ob.data ≠ .seq xs n) := by
  cases o with
  | inst C fs =>
    obtain ⟨o, d, m, h1, h2, h3, _⟩ := r
    exact ⟨o, h1, fun es n e => (by rw [h3] at e; cases e), .inl fun e => (by rw [h2] at e; cases e)⟩
  | list vs =>
    obtain ⟨o, xs, n, h1, h2, h3, hdn, h4⟩ := r
    exact ⟨o, h1, fun es n e => (by rw [h3] at e; cases e), .inl fun e => (by rw [h2] at e; revert e; decide)⟩
  | cell v =>
    obtain ⟨o, h1, h3⟩ := r
    cases v with
    | none => simp only at h3; exact ⟨o, h1, fun es n e => (by rw [h3] at e; cases e), .inr fun es n e => (by rw [h3] at e; cases e)⟩
    | some v => obtain ⟨u, q, _⟩ := h3; exact ⟨o, h1, fun es n e => (by rw [q] at e; cases e), .inr fun es n e => (by rw [q] at e; cases e)⟩
  | liter l i => obtain ⟨o, h1, h2, h3⟩ := r; exact ⟨o, h1, fun es n e => (by rw [h3] at e; cases e), .inr fun es n e => (by rw [h3] at e; cases e)⟩
  | riter x y => exact ⟨_, r, fun es n e => (by cases e), .inr fun es n e => (by cases e)⟩
  | range n => obtain ⟨t, u, v, r⟩ := r; exact ⟨_, r, fun es n e => (by cases e), .inr fun es n e => (by cases e)⟩

/-- everything kept: pushes of objects that nobody tracks -/
theorem RelH.keeps {c : Cx} {H : Hp} {s : Shared} {h' : Heap} {t : Nat} (r : RelH c H s) (k : ∀ b o, s.heap.get? b = some o → h'.get? b = some o) : RelH c H { s with heap := h', toks := t } where
  keep := fun b o e => k b o (r.keep b o e)
  outs := fun p hp => (r.outs p hp).keeps k
  cur := let ⟨m, e⟩ := r.cur; ⟨m, e.keeps k⟩
  new := r.new
  objs := fun a o e => (r.objs a o e).keep k
  dinj := fun a a' C fs C' fs' o o' d e1 e2 g1 g2 d1 d2 => by
    obtain ⟨o1, d', m, q1, _⟩ := r.objs a _ e1
    obtain ⟨o2, d'', m', q2, _⟩ := r.objs a' _ e2
    have z1 := k _ _ q1; have z2 := k _ _ q2
    simp only at g1 g2
    rw [z1] at g1; rw [z2] at g2; cases g1; cases g2
    exact r.dinj a a' C fs C' fs' _ _ d e1 e2 q1 q2 d1 d2
  evo0 := r.evo0.trans (.of_keep k)
  gens := r.gens
  os := r.os
theorem Rel.keeps {c : Cx} {σ : St} {s : Shared} {h' : Heap} {t : Nat} (r : Rel c σ s) (k : ∀ b o, s.heap.get? b = some o → h'.get? b = some o) : Rel c σ { s with heap := h', toks := t } :=
  { r.toRelH.keeps k with locs := let ⟨m, e, q⟩ := r.locs; ⟨m, e.keeps k, q.evo (.of_keep k)⟩ }
theorem Rel.push {c : Cx} {σ : St} {s : Shared} {o : Obj} {t : Nat} (r : Rel c σ s) : Rel c σ { s with heap := s.heap.push o, toks := t } := r.keeps fun _ _ e => Heap.get?_push_of_some o e
theorem Rel.toks {c : Cx} {σ : St} {s : Shared} {t : Nat} (r : Rel c σ s) : Rel c σ { s with toks := t } := r.keeps fun _ _ e => e

/-- one place changes, no tuple and nothing of the base: what is tracked elsewhere stands -/
theorem evo_change {h h' : Heap} {b : Addr} {ob : Obj} (k : ∀ x o, x ≠ b → h.get? x = some o → h'.get? x = some o) (hb : h.get? b = some ob) (hc : ob.cls ≠ .type "tuple" ∨ ∀ xs n, ob.data ≠ .seq xs n) : Evo h h' := by
  rintro a xs ⟨o, e, c, n, d⟩
  refine ⟨o, k a o ?_ e, c, n, d⟩
  rintro rfl
  rw [hb] at e; cases e
  rcases hc with hc | hc
  · exact hc c
  · exact hc _ _ d

/-- the current frame's names change -/
theorem Rel.setLoc {c : Cx} (F : c.Fine) {σ : St} {s : Shared} {h' : Heap} {t : Nat} {m' : Str → Option Value} {l' : List (N × V)} (r : Rel c σ s) (hs : Heap.SameBut c.env.locals s.heap h') (hn : h'.Ns c.env.locals m')
    (hl : Evo s.heap h' → LocR h' l' m') : Rel c ⟨l', σ.H⟩ { s with heap := h', toks := t } ∧ Evo s.heap h' := by
  obtain ⟨m, hm, hq⟩ := r.locs
  obtain ⟨ob, es, ep, hob, hdat, _⟩ := id hm
  have k : ∀ x o, x ≠ c.env.locals → s.heap.get? x = some o → h'.get? x = some o := fun x o hx e => (hs.2 x hx).trans e
  have ev : Evo s.heap h' := evo_change k hob (.inr fun xs n e => by rw [hdat] at e; cases e)
  have hin : c.env.locals ∈ c.frames := List.mem_cons_self
  refine ⟨{ keep := fun b o e => ?_, outs := fun p hp => ?_, cur := ⟨m', hn⟩, new := r.new, objs := fun a o e => ?_, dinj := ?_, evo0 := r.evo0.trans ev, gens := r.gens, os := r.os, locs := ⟨m', hn, hl ev⟩ }, ev⟩
  · refine k b o ?_ (r.keep b o e)
    rintro rfl; rw [F.newF _ hin] at e; cases e
  · refine (r.outs p hp).extBut hs.extBut ?_
    rintro q
    have nd := F.nodup
    unfold Cx.frames at nd
    exact (List.nodup_cons.mp nd).1 (q ▸ List.mem_map_of_mem (f := fun p : Env × (Str → Option Value) => p.1.locals) hp)
  · have hne : a ≠ c.env.locals := by
      obtain ⟨ob', h1, h2, _⟩ := (r.objs a o e).exists
      rintro rfl; rw [hob] at h1; cases h1; exact h2 _ _ hdat
    refine (r.objs a o e).change ev k hne ?_
    rintro ob' d h1 h2 ⟨C, fs, rfl⟩ rfl
    obtain ⟨o1, d', m1, q1, _, _, q4, q5, _⟩ := r.objs a _ e
    rw [q1] at h1; cases h1
    rw [q4] at h2; cases h2
    exact q5 hin
  · intro a a' C fs C' fs' o o' d e1 e2 g1 g2 d1 d2
    obtain ⟨ob1, h1, h2, _⟩ := (r.objs a _ e1).exists
    obtain ⟨ob2, h1', h2', _⟩ := (r.objs a' _ e2).exists
    have n1 : a ≠ c.env.locals := by rintro rfl; rw [hob] at h1; cases h1; exact h2 _ _ hdat
    have n2 : a' ≠ c.env.locals := by rintro rfl; rw [hob] at h1'; cases h1'; exact h2' _ _ hdat
    simp only at g1 g2
    rw [hs.2 a n1] at g1; rw [hs.2 a' n2] at g2
    exact r.dinj a a' C fs C' fs' o o' d e1 e2 g1 g2 d1 d2

end Mine

end
section
open PySem PySem.W PySem.Calls PyProof.Rows Builtin Builtin.ObjectAttr
set_option maxRecDepth 100000
namespace Mine

/-! changes of tracked objects -/

theorem Rel.changeAt {c : Cx} {σ : St} {s : Shared} {h' : Heap} {t : Nat} (r : Rel c σ s) (b a₀ : Addr) (o' : O) {ob : Obj}
    (hb : s.heap.get? b = some ob) (hbase : c.base.get? b = none) (hbF : b ∉ c.frames) (hct : ob.cls ≠ .type "tuple" ∨ ∀ xs n, ob.data ≠ .seq xs n)
    (k : ∀ x o, x ≠ b → s.heap.get? x = some o → h'.get? x = some o)
    (hnew : Evo s.heap h' → OR c.base c.frames h' a₀ o') (hbase0 : c.base.get? a₀ = none)
    (hoth : ∀ a o, a ≠ a₀ → σ.H a = some o → a ≠ b ∧ ∀ ob d, s.heap.get? a = some ob → ob.dict = some d → (∃ C fs, o = .inst C fs) → d ≠ b)
    (hd : ∀ C fs, o' = .inst C fs → (∃ C fs, σ.H a₀ = some (.inst C fs)) ∧ a₀ ≠ b) :
    Rel c ⟨σ.loc, σ.H.upd a₀ o'⟩ { s with heap := h', toks := t } ∧ Evo s.heap h' := by
  have ev : Evo s.heap h' := evo_change k hb hct
  refine ⟨{ keep := fun x o e => ?_, outs := fun p hp => ?_, cur := ?_, new := fun a o e => ?_, objs := fun a o e => ?_, dinj := ?_, evo0 := r.evo0.trans ev, gens := r.gens, os := r.os, locs := ?_ }, ev⟩
  · refine k x o ?_ (r.keep x o e)
    rintro rfl; rw [hbase] at e; cases e
  · refine (r.outs p hp).extBut (fun x o hx e => k x o hx e) ?_
    rintro rfl; exact hbF (List.mem_cons_of_mem _ (List.mem_map_of_mem (f := fun p : Env × (Str → Option Value) => p.1.locals) hp))
  · obtain ⟨m, hm⟩ := r.cur
    exact ⟨m, hm.extBut (fun x o hx e => k x o hx e) (by rintro rfl; exact hbF List.mem_cons_self)⟩
  · simp only [Hp.upd] at e
    split at e
    · rename_i q; subst q; exact hbase0
    · exact r.new a o e
  · simp only [Hp.upd] at e
    split at e
    · rename_i q; subst q; cases e; exact hnew ev
    · rename_i q
      obtain ⟨n1, n2⟩ := hoth a o q e
      exact (r.objs a o e).change ev k n1 n2
  · intro a a' C fs C' fs' o o'' d e1 e2 g1 g2 d1 d2
    have aux : ∀ a C fs o, (σ.H.upd a₀ o') a = some (.inst C fs) → h'.get? a = some o → ∃ C fs, σ.H a = some (.inst C fs) ∧ s.heap.get? a = some o := by
      intro a C fs o e g
      simp only [Hp.upd] at e
      split at e
      · rename_i q; subst q
        obtain ⟨⟨C', fs', q⟩, hne⟩ := hd C fs (Option.some.inj e)
        obtain ⟨o1, d', m, q1, _⟩ := r.objs a _ q
        have := k _ _ hne q1
        rw [this] at g; cases g
        exact ⟨C', fs', q, q1⟩
      · rename_i q
        obtain ⟨n1, _⟩ := hoth a _ q e
        obtain ⟨o1, d', m, q1, _⟩ := r.objs a _ e
        have := k _ _ n1 q1
        rw [this] at g; cases g
        exact ⟨C, fs, e, q1⟩
    obtain ⟨C1, f1, x1, y1⟩ := aux a C fs o e1 g1
    obtain ⟨C2, f2, x2, y2⟩ := aux a' C' fs' o'' e2 g2
    exact r.dinj a a' _ _ _ _ o o'' d x1 x2 y1 y2 d1 d2
  · obtain ⟨m, hm, hl⟩ := r.locs
    exact ⟨m, hm.extBut (fun x o hx e => k x o hx e) (by rintro rfl; exact hbF List.mem_cons_self), hl.evo ev⟩

/-- a new tracked object -/
theorem Rel.alloc {c : Cx} {σ : St} {s : Shared} {h' : Heap} {t : Nat} (r : Rel c σ s) (a₀ : Addr) (o' : O)
    (k : ∀ x o, s.heap.get? x = some o → h'.get? x = some o) (hf : s.heap.get? a₀ = none) (hnew : OR c.base c.frames h' a₀ o')
    (hd : ∀ ob d, h'.get? a₀ = some ob → ob.dict = some d → s.heap.get? d = none) :
    Rel c ⟨σ.loc, σ.H.upd a₀ o'⟩ { s with heap := h', toks := t } ∧ Evo s.heap h' ∧ σ.H a₀ = none := by
  have ev : Evo s.heap h' := .of_keep k
  have hn : σ.H a₀ = none := by
    cases q : σ.H a₀ with
    | none => rfl
    | some o => obtain ⟨ob, h1, _⟩ := (r.objs a₀ o q).exists; rw [hf] at h1; cases h1
  have R := r.keeps (h' := h') (t := t) k
  refine ⟨{ R with new := fun a o e => ?_, objs := fun a o e => ?_, dinj := ?_ }, ev, hn⟩
  · simp only [Hp.upd] at e
    split at e
    · rename_i q; subst q
      cases q : c.base.get? a with
      | none => rfl
      | some o => have := r.keep _ _ q; rw [hf] at this; cases this
    · exact r.new a o e
  · simp only [Hp.upd] at e
    split at e
    · rename_i q; subst q; cases e; exact hnew
    · exact R.objs a o e
  · intro a a' C fs C' fs' o o'' d e1 e2 g1 g2 d1 d2
    simp only [Hp.upd] at e1 e2
    have old : ∀ a C fs o, σ.H a = some (.inst C fs) → h'.get? a = some o → o.dict = some d → s.heap.get? d ≠ none := by
      intro a C fs o e g hd'
      obtain ⟨o1, d', m, q1, _, _, q4, _, _, q7, _⟩ := r.objs a _ e
      have := k _ _ q1
      rw [this] at g; cases g
      rw [q4] at hd'; cases hd'
      obtain ⟨od, _, _, q8, _⟩ := q7
      rw [q8]; simp
    split at e1 <;> split at e2
    · rename_i p q; rw [p, q]
    · rename_i p q; subst p
      exact absurd (hd _ _ g1 d1) (old a' _ _ _ e2 g2 d2)
    · rename_i p q; subst q
      exact absurd (hd _ _ g2 d2) (old a _ _ _ e1 g1 d1)
    · exact R.dinj a a' C fs C' fs' o o'' d e1 e2 g1 g2 d1 d2

/-! instances: attributes read and stored, methods found -/

theorem lookIn_ns {h : Heap} {d : Addr} {m : Str → Option Value} (n : h.Ns d m) : ∃ od, h.get? d = some od ∧ ∀ name, lookIn name od = some (m name) := by
  obtain ⟨od, es, ep, h1, h2, h3, h4⟩ := n
  refine ⟨od, h1, fun name => ?_⟩
  have e4 := h4 name
  unfold nsFind findBy at e4
  unfold lookIn
  rw [h2]
  dsimp only
  rw [Array.find?_toList]
  cases hf : es.find? (fun e => e.key.isStr name) with
  | some e => rw [hf] at e4; simp only [Option.map_some] at e4; rw [← e4]
  | none =>
    rw [hf] at e4
    simp only [Option.map_none] at e4
    have : (es.toList.any (·.refKey)) = false := by
      rw [List.any_eq_false]
      intro e he
      obtain ⟨n, t, q⟩ := h3 e (Array.mem_toList_iff.mp he)
      unfold DictEntry.refKey
      rw [q]; simp
    simp only [this, Bool.false_eq_true, if_false, ← e4]

noncomputable def attrGet (K : Frag) (C : Addr) (name : Str) : Bool :=
  findIn K (.ref C) "__getattribute__" == some (some (.builtin "object.__getattribute__")) && findIn K (.ref C) name == some none && (clsIn K C).any (·.hasDict)
noncomputable def attrSet (K : Frag) (C : Addr) (name : Str) : Bool :=
  findIn K (.ref C) "__setattr__" == some (some (.builtin "object.__setattr__")) && plainOver K C && takerIn K C name == some none && (clsIn K C).any (·.hasDict)

theorem instAt {base : Heap} {F : List Addr} {h : Heap} {a C : Addr} {fs : List (N × V)} (r : OR base F h a (.inst C fs)) :
    ∃ ox od d m, InstAt h a ox C (some od) ∧ h.get? a = some ox ∧ ox.data = .plain ∧ ox.dict = some d ∧ d ∉ F ∧ base.get? d = none ∧ h.Ns1 d m ∧ FieldsR h fs m ∧ h.get? d = some od ∧ ∀ name, lookIn name od = some (m name) := by
  obtain ⟨o, d, m, h1, h2, h3, h4, h5, h6, h7, h8⟩ := r
  obtain ⟨od, e1, e2⟩ := lookIn_ns h7.ns
  exact ⟨o, od, d, m, ⟨h1, h2, by unfold notCls; rw [h3], by rw [h4]; exact e1⟩, h1, h3, h4, h5, h6, h7, h8, e1, e2⟩

noncomputable def V.handed : V → Bool
  | .bi i => (withoutEnding? i "#data").isNone
  | _ => true
theorem handed_of {h : Heap} {v : V} {u : Value} (r : VR h v u) (e : v.handed = true) : handedIn u = true := by
  cases v <;> simp only [VR] at r
  all_goals first
    | (subst r; first | rfl | exact e)
    | (obtain ⟨t, rfl⟩ := r; rfl)
    | (obtain ⟨a, xs, rfl, _⟩ := r; rfl)

section
variable {prog : Program} {w : World} {A : Around} {E : Value → Shared → Prop} {s : Shared} {K : Frag} {base : Heap} {F : List Addr} {a C : Addr} {fs : List (N × V)}

theorem getAttr_inst {name : N} {expr : Bool} {v : V} {Q : Value → Shared → Prop} (X : K.In s.heap) (r : OR base F s.heap a (.inst C fs)) (ok : attrGet K C (nm name) = true)
    (hl : lk fs name = some v) (hv : v.handed = true) (h : ∀ u, VR s.heap v u → Q u { s with toks := s.toks + 1 }) : wpAny (model prog w) A (getAttr (.ref a) (nm name) expr) Q E s := by
  obtain ⟨ox, od, d, m, I, h1, h2, h3, h4, h5, h6, h7, h8, h9⟩ := instAt r
  simp only [attrGet, Bool.and_eq_true, beq_iff_eq] at ok
  obtain ⟨⟨k1, k2⟩, k3⟩ := ok
  obtain ⟨cd, hcd, hdict⟩ := any_some k3
  obtain ⟨u, hu, hr⟩ := h7.1 name v hl
  refine get_value (v := u) X I k1 ?_ (handed_of hr hv) (h u hr)
  unfold findObj
  rw [hcd, k2]
  simp only [Option.bind_some]
  unfold W.ownOf
  rw [hdict, if_pos rfl]
  dsimp only
  rw [h9 (nm name), hu]
  rfl

theorem getMethod_inst {name : N} {pl : Sem Bool} {f : Addr} {Q : Value × List Value → Shared → Prop} (X : K.In s.heap) (r : OR base F s.heap a (.inst C fs)) (hg : plainGet K C (nm name) = true)
    (hf : findIn K (.ref C) (nm name) = some (some (.ref f))) (ht : isFn K (.ref f) = true) (hl : lk fs name = none) (h : Q (.ref f, [.ref a]) s) : wpAny (model prog w) A (getMethod (.ref a) (nm name) pl) Q E s := by
  obtain ⟨ox, od, d, m, I, h1, h2, h3, h4, h5, h6, h7, h8, h9⟩ := instAt r
  have hx := h7.none hl
  exact method_fn X I (plainGet_of hg).1 (plainGet_of hg).2 hf (beq_iff_eq.mp ht) (by show (lookIn (nm name) od).map _ = _; rw [h9, hx]; rfl) h

theorem setAttr_inst {name : N} {u : Value} {Q : Unit → Shared → Prop} (X : K.In s.heap) (r : OR base F s.heap a (.inst C fs)) (ok : attrSet K C (nm name) = true)
    (h : ∀ h' t' ox d m, s.heap.get? a = some ox → ox.data = .plain → ox.cls = .ref C → ox.dict = some d → d ∉ F → base.get? d = none → FieldsR s.heap fs m → (∃ od es n, s.heap.get? d = some od ∧ od.data = .dict es n) →
      h'.Ns1 d (fun y => if y = nm name then some u else m y) → Heap.SameBut d s.heap h' → Q () { s with heap := h', toks := t' })
    (hsz : fs.length ≤ 100) : wpAny (model prog w) A (setAttr (.ref a) (nm name) u) Q E s := by
  obtain ⟨hh, g, dr, t, os⟩ := s
  obtain ⟨ox, od, d, m, I, h1, h2, h3, h4, h5, h6, h7, h8, h9⟩ := instAt r
  simp only [attrSet, Bool.and_eq_true, beq_iff_eq] at ok
  obtain ⟨⟨⟨k1, k2⟩, k3⟩, k4⟩ := ok
  refine set_plain X I k1 ?_
  refine osa_open (s := ⟨hh, g, dr, t + 1, os⟩) X I k2 k3 fun b => ?_
  obtain ⟨cd, hc, hd'⟩ := any_some k4
  have hcls := I.cls
  obtain ⟨oc, odi, oda, osl⟩ := ox
  dsimp only at hcls h2 h3
  subst hcls h2 h3
  have w0 : Within m (fs.map fun p => nm p.1) := fun x hx => by
    refine Classical.byContradiction fun hn => hx (h7.2 x fun p hp e => hn (List.mem_map.mpr ⟨p, hp, e⟩))
  refine wpAny_bind (wpAny_pure (wpAny_bind (wpAny_bind (wpAny_loadPart h1 (wpAny_bind ((looks_clsIn (M := model prog w) X hc).at ?_))))))
  rw [hd']
  refine wpAny_pure (a := some d) (wpAny_bind (wpAny_pure (wpAny_bind ?_)))
  refine wpAny_nsSet1 h6 fun h' hn' hs => ?_
  obtain ⟨oD, esD, epD, hoD, hdD, hcD⟩ := hn'.count (Within.cons (nm name) u w0)
  refine wpAny_bind (wpAny_lookBehind hoD (by rw [hdD]; exact pastItsLine_dict (Nat.le_trans hcD (by rw [List.length_cons, List.length_map, sizeLine_eq]; omega))) ?_)
  refine wpAny_pure ?_
  refine h h' _ _ d m h1 rfl rfl rfl h4 h5 h7 ?_ hn' hs
  obtain ⟨od', es, n, q1, q2, _⟩ := h6
  exact ⟨od', es, n, q1, q2⟩
end

end Mine

end
section
open PySem PySem.W PySem.Calls PyProof.Rows
set_option maxRecDepth 100000
set_option linter.all false
namespace Mine

/-! the top's names as data -/
noncomputable def tupIs (K : Frag) (x : Value) (k : List Value → Bool) : Bool := match x with
  | .ref a => (match K.lookup a with
      | some o => (o.cls == .type "tuple") && (match o.data with
          | .seq xs _ => k xs.toList
          | _ => false)
      | none => false)
  | _ => false
theorem tupIs_ok {K : Frag} {x : Value} {k : List Value → Bool} (h : tupIs K x k = true) : ∃ a o xs n, x = .ref a ∧ K.lookup a = some o ∧ o.cls = .type "tuple" ∧ o.data = .seq xs n ∧ k xs.toList = true := by
  cases x <;> first | exact Bool.noConfusion h | skip
  rename_i a
  unfold tupIs at h
  dsimp only at h
  cases q : K.lookup a with
  | none => rw [q] at h; exact Bool.noConfusion h
  | some o =>
    rw [q] at h
    dsimp only at h
    obtain ⟨h1, h2⟩ := Bool.and_eq_true_iff.mp h
    obtain ⟨c, d, dt, sl⟩ := o
    dsimp only at h1 h2
    cases dt <;> first | exact Bool.noConfusion h2 | exact ⟨a, _, _, _, rfl, q, beq_iff_eq.mp h1, rfl, h2⟩
noncomputable def bIs (b : Bool) : Value → Bool
  | .bool c => b == c
  | _ => false
noncomputable def iIs (b : Int) : Value → Bool
  | .int c _ => b == c
  | _ => false
noncomputable def sIs (b : List Nat) : Value → Bool
  | .str c _ => b == c.cps.toList
  | _ => false
noncomputable def rIs (b : Addr) : Value → Bool
  | .ref c => b == c
  | _ => false
noncomputable def biIs (b : String) : Value → Bool
  | .builtin c => b == c
  | _ => false
noncomputable def tyIs (b : String) : Value → Bool
  | .type c => b == c
  | _ => false
noncomputable def nIs : Value → Bool
  | .none => true
  | _ => false
theorem bIs_ok {b : Bool} {x : Value} (h : bIs b x = true) : x = .bool b := by cases x <;> first | exact Bool.noConfusion h | exact congrArg _ (beq_iff_eq.mp h).symm
theorem iIs_ok {b : Int} {x : Value} (h : iIs b x = true) : ∃ t, x = .int b t := by cases x <;> first | exact Bool.noConfusion h | exact ⟨_, congrArg (fun z => Value.int z _) (beq_iff_eq.mp h).symm⟩
theorem sIs_ok {b : List Nat} {x : Value} (h : sIs b x = true) : ∃ c t, x = .str c t ∧ b = c.cps.toList := by cases x <;> first | exact Bool.noConfusion h | exact ⟨_, _, rfl, beq_iff_eq.mp h⟩
theorem rIs_ok {b : Addr} {x : Value} (h : rIs b x = true) : x = .ref b := by cases x <;> first | exact Bool.noConfusion h | exact congrArg _ (beq_iff_eq.mp h).symm
theorem biIs_ok {b : String} {x : Value} (h : biIs b x = true) : x = .builtin b := by cases x <;> first | exact Bool.noConfusion h | exact congrArg _ (beq_iff_eq.mp h).symm
theorem tyIs_ok {b : String} {x : Value} (h : tyIs b x = true) : x = .type b := by cases x <;> first | exact Bool.noConfusion h | exact congrArg _ (beq_iff_eq.mp h).symm
theorem nIs_ok {x : Value} (h : nIs x = true) : x = .none := by cases x <;> first | rfl | exact Bool.noConfusion h
mutual
noncomputable def vrB (K : Frag) : V → Value → Bool
  | .none, x => nIs x
  | .bool b, x => bIs b x
  | .int i, x => iIs i x
  | .str l, x => sIs l x
  | .bytes _, _ => false
  | .tup vs, x => tupIs K x fun xs => vrsB K vs xs
  | .ref a, x => rIs a x
  | .bi i, x => biIs i x
  | .ty i, x => tyIs i x
noncomputable def vrsB (K : Frag) : List V → List Value → Bool
  | [], xs => xs.isEmpty
  | v :: vs, xs => (match xs with
      | x :: xs => vrB K v x && vrsB K vs xs
      | [] => false)
end
mutual
theorem vrB_ok {K : Frag} {h : Heap} (X : K.In h) : ∀ {v : V} {x : Value}, vrB K v x = true → VR h v x
  | .none, x, e => nIs_ok e
  | .bool b, x, e => bIs_ok e
  | .int b, x, e => iIs_ok e
  | .str l, x, e => by
    obtain ⟨c, t, rfl, rfl⟩ := sIs_ok e
    exact ⟨t, rfl⟩
  | .bytes _, x, e => Bool.noConfusion e
  | .tup vs, x, e => by
    obtain ⟨a, o, xs, n, rfl, h1, h2, h3, h4⟩ := tupIs_ok e
    exact ⟨a, xs.toList, rfl, ⟨_, X _ _ h1, h2, n, h3.trans (by simp)⟩, vrsB_ok X h4⟩
  | .ref a, x, e => rIs_ok e
  | .bi a, x, e => biIs_ok e
  | .ty a, x, e => tyIs_ok e
theorem vrsB_ok {K : Frag} {h : Heap} (X : K.In h) : ∀ {vs : List V} {xs : List Value}, vrsB K vs xs = true → VRs h vs xs
  | [], xs, e => by cases xs <;> first | rfl | exact Bool.noConfusion e
  | v :: vs, xs, e => by
    cases xs with
    | nil => exact Bool.noConfusion e
    | cons x xs =>
      have e := Bool.and_eq_true_iff.mp e
      exact ⟨_, _, rfl, vrB_ok X e.1, vrsB_ok X e.2⟩
end

noncomputable def LAWROW : List Int := [34, 0, 13, 1, 14, 15, 9, 16, 21, 17, 19, 12, 18, 22, 10, 2, 11, 8, 3, 10, 4, 1, 7, 5, 0, 1, 2, 0, 6, 0, 1, 3, 4, 2, 1, 9, 4, 0, 132, 0, 0, 160, 0, 0, 0, 0, 1, 0, 0]
noncomputable def SIGNS : List (List Nat) := [[97], [32], [10], [40], [41], [34], [59], [92], [13], [9], [49], [55], [101], [34, 97, 32, 49, 34], [59, 55, 10], [40, 97, 10], [32, 41], [92, 34], [13, 10], [34, 92, 10, 34], [97], [32, 97], [59, 40, 34, 13], [10, 9]]
noncomputable def LABELS : List (List Nat) := [[60, 115, 116, 114, 105, 110, 103, 62], [122, 111, 110, 101, 32, 111, 110, 101], []]
noncomputable def delims : V := .tup [.str [32], .str [9], .str [10], .str [59], .str [40], .str [41], .str [34]]
noncomputable def qdelims : V := .tup [.str [34]]
/-- the global names that the walked defs read -/
noncomputable def GT : List (N × V) := [(.kEOF, .int 0), (.kEOL, .int 1), (.kWHITESPACE, .int 2), (.kIDENTIFIER, .int 3), (.kQUOTED_STRING, .int 4), (.kCOMMENT, .int 5), (.kDELIMITER, .int 6),
  (.k_DELIMITERS, delims), (.k_QUOTING_DELIMITERS, qdelims), (.k_Text, .ref 84), (.kToken, .ref 209), (.kTokenizer, .ref 451),
  (.kUngetBufferFull, .ref 98), (.kDnsSyntaxError, .ref 44), (.kUnexpectedEnd, .ref 56), (.kDNSException, .ref 31),
  (.k_law_row, .ref 465), (.k_law_text, .ref 472), (.k_law_body, .ref 479), (.k_law_pieces, .ref 486), (.k_law_past, .ref 493), (.k_law_next, .ref 500), (.k_law_full, .ref 507), (.k_law_told, .ref 514),
  (.kLAW_ROW, .tup (LAWROW.map .int)), (.kLAW_SIGNS, .tup (SIGNS.map .str)), (.kLAW_LABELS, .tup (LABELS.map .str)),
  (.klen, .bi "len"), (.kmin, .bi "min"), (.krange, .ty "range"), (.klist, .ty "list"), (.kchr, .bi "chr"), (.kisinstance, .bi "isinstance"), (.kstr, .ty "str")]
noncomputable def gtB (K : Frag) : Bool := GT.all fun p => match nsIn K mainGlobals (nm p.1) with
  | some (some u) => vrB K p.2 u
  | some none => (match bootBuiltins (nm p.1) with
      | some u => vrB K p.2 u
      | none => false)
  | none => false

theorem lk_mem {l : List (N × V)} {n : N} {v : V} (h : lk l n = some v) : (n, v) ∈ l := by
  induction l with
  | nil => cases h
  | cons p r ih =>
    unfold lk at h
    split at h
    · rename_i e; cases h; subst e; exact List.mem_cons_self
    · exact List.mem_cons_of_mem _ (ih h)
theorem nm_debug (n : N) : (nm n == ("__debug__" : Str)) = false := by
  have : (allN.all fun n => (nm n == ("__debug__" : Str)) == false) = true := by decide +kernel
  have hn : n ∈ allN := by cases n <;> decide
  exact beq_iff_eq.mp (List.all_eq_true.mp this n hn)
theorem nm_name (n : N) : nm n ≠ ("__name__" : Str) := by
  have : (allN.all fun n => (nm n == ("__name__" : Str)) == false) = true := by decide +kernel
  have hn : n ∈ allN := by cases n <;> decide
  have := beq_iff_eq.mp (List.all_eq_true.mp this n hn)
  intro e
  rw [e] at this
  simp at this

/-- which attributes the instances of a class hold plainly -/
noncomputable def ATT : List (Addr × List N) := [(84, [.ktext, .kat]), (209, [.kttype, .kvalue, .khas_escape, .kcomment]),
  (451, [.kfile, .kungotten_char, .kungotten_token, .kmultiline, .kquoting, .keof, .kafter_cr, .kdelimiters, .kline_number, .kfilename])]
noncomputable def attB (K : Frag) : Bool := ATT.all fun p => p.2.all fun n => attrGet K p.1 (nm n) && attrSet K p.1 (nm n)
noncomputable def attOf (C : Addr) (n : N) : Bool := ATT.any fun p => p.1 == C && p.2.contains n
theorem attB_ok {K : Frag} (h : attB K = true) {C : Addr} {n : N} (e : attOf C n = true) : attrGet K C (nm n) = true ∧ attrSet K C (nm n) = true := by
  obtain ⟨p, hp, hq⟩ := List.any_eq_true.mp e
  simp only [Bool.and_eq_true, beq_iff_eq] at hq
  have := List.all_eq_true.mp (List.all_eq_true.mp h p hp) n (List.contains_iff_mem.mp hq.2)
  simp only [Bool.and_eq_true] at this
  rw [hq.1] at this
  exact this

/-- the methods, by class and name -/
noncomputable def METH : List ((Addr × N) × Addr) := [((84, .kread), 81), ((209, .kis_whitespace), 136), ((209, .kis_comment), 157), ((451, .k_get_char), 235), ((451, .kwhere), 242), ((451, .k_unget_char), 249),
  ((451, .kskip_whitespace), 256), ((451, .kget), 264), ((451, .kunget), 271)]
noncomputable def methB (K : Frag) : Bool := METH.all fun p => plainGet K p.1.1 (nm p.1.2) && findIn K (.ref p.1.1) (nm p.1.2) == some (some (.ref p.2)) && isFn K (.ref p.2)
/-- what is called: defs and classes -/
noncomputable def CALLEES : List Addr := [74, 81, 115, 136, 157, 228, 235, 242, 249, 256, 264, 271, 465, 472, 479, 486, 493, 500, 507, 514, 84, 209, 451]
noncomputable def calB (K : Frag) : Bool := CALLEES.all fun a => keepIn K (.ref a)
noncomputable def INITS : List (Addr × Addr) := [(84, 74), (209, 115), (451, 228)]
noncomputable def iniB (K : Frag) : Bool := INITS.all fun p => makesIn K p.1 && findIn K (.ref p.1) "__init__" == some (some (.ref p.2)) && isFn K (.ref p.2)
/-- the exception classes with what is known of them -/
noncomputable def EXMRO : List (Addr × List Addr) := [(31, [31]), (44, [44, 31]), (56, [56, 44, 31]), (98, [98, 31])]
noncomputable def excTail : List Value := [.type "Exception", .type "BaseException", .type "object"]
noncomputable def mroIn (K : Frag) (C : Addr) (l : List Value) : Bool := match K.lookup C with
  | some ⟨_, _, .cls cd, _⟩ => cd.mro == l
  | _ => false
noncomputable def excB (K : Frag) : Bool := EXMRO.all fun p => excIn K p.1 excTail "Exception.__new__" && mroIn K p.1 (p.2.map .ref ++ excTail)
noncomputable def isExc (C : Addr) : Bool := EXMRO.any fun p => p.1 == C
noncomputable def mroHas (C T : Addr) : Bool := EXMRO.any fun p => p.1 == C && p.2.contains T
structure ExcOk (h : Heap) (C : Addr) : Prop where
  obj : ∃ nm q N bs bm hdct sn sub ab col dd k0 k1 k2 k3 k5 mN, h.get? C = some (excClassObj nm q C N bs bm hdct sn sub ab col dd k0 k1 k2 k3 k5 "Exception.__new__") ∧ h.Ns N mN ∧ mN "__init__" = none ∧ OwnTail h excTail bm ∧
    ∀ T, (Value.ref C :: bm).contains (.ref T) = mroHas C T
theorem excB_ok {K : Frag} {h : Heap} (X : K.In h) (hB : excB K = true) {C : Addr} (hC : isExc C = true) : ExcOk h C := by
  obtain ⟨p, hp, hq⟩ := List.any_eq_true.mp hC
  have hb := List.all_eq_true.mp hB p hp
  rw [beq_iff_eq.mp hq] at hb
  simp only [Bool.and_eq_true] at hb
  obtain ⟨q, hm'⟩ := hb
  unfold excIn at q
  split at q
  · rename_i dd cd sl ho
    split at q
    · rename_i C' bm k0 k1 k2 k3 n k5 hm hs
      simp only [Bool.and_eq_true, beq_iff_eq, Bool.not_eq_true'] at q
      obtain ⟨⟨⟨⟨⟨rfl, rfl⟩, hdel⟩, ht⟩, hok⟩, hni⟩ := q
      unfold mroIn at hm'
      rw [ho] at hm'
      simp only [beq_iff_eq] at hm'
      obtain ⟨nm, bs, mro, ns, qn, hd, sn, sub, ab, col, del⟩ := cd
      dsimp only at hm hdel hok hni hm'
      subst hm hdel
      have hsl : sl = #[k0, k1, k2, k3, some (.builtin "Exception.__new__"), k5] := by
        obtain ⟨l⟩ := sl
        simp only at hs
        rw [hs]
      subst hsl
      refine ⟨nm, qn, ns, bs, bm, hd, sn, sub, ab, col, dd, k0, k1, k2, k3, k5, _, X _ _ ho, .of_isNs (isNs_of_in X hok), nsMap_none_of_in X hok hni, tail_of_in X ht, fun T => ?_⟩
      rw [hm']
      unfold mroHas
      rw [Bool.eq_iff_iff, List.contains_iff_mem]
      simp only [List.any_eq_true, Bool.and_eq_true, beq_iff_eq, List.contains_iff_mem]
      have hpC : p.1 = C' := beq_iff_eq.mp hq
      constructor
      · intro h
        rcases List.mem_append.mp h with h | h
        · obtain ⟨z, hz, e⟩ := List.mem_map.mp h
          cases e
          exact ⟨p, hp, hpC, hz⟩
        · exfalso; revert h; unfold excTail; simp
      · rintro ⟨p', hp', e1, e2⟩
        have : p' = p := by
          have hnd : ∀ x ∈ EXMRO, ∀ y ∈ EXMRO, x.1 = y.1 → x = y := by decide
          exact hnd p' hp' p hp (e1.trans hpC.symm)
        subst this
        exact List.mem_append_left _ (List.mem_map.mpr ⟨T, e2, rfl⟩)
    · cases q
  · cases q

/-- where an exception stands between the frames -/
noncomputable def ExAt (base : Heap) (H : Hp) (e C : Addr) (h : Heap) : Prop :=
  ∃ oe vs, h.get? e = some oe ∧ oe.cls = .ref C ∧ oe.data = .fields vs ∧ base.get? e = none ∧ H e = none ∧
    (vs[1]? = some .none ∨ ∃ T oT ts, vs[1]? = some (.ref T) ∧ base.get? T = none ∧ H T = none ∧ T ≠ e ∧ h.get? T = some oT ∧ oT.data = .fields ts ∧ ts[3]? = some .none)

structure Cx.Ok (c : Cx) : Prop extends c.Fine where
  kin : c.K.In c.base
  gt : gtB c.K = true
  att : attB c.K = true
  meth : methB c.K = true
  cal : calB c.K = true
  ini : iniB c.K = true
  exc : excB c.K = true
  gl : ∃ mg, c.base.Ns mainGlobals mg
  bl : ∃ mb, c.base.Ns builtinsNs mb ∧ ∀ x : Str, x ≠ "__name__" → mb x = bootBuiltins x
  nolimit : c.base.NoLimit
  kind : c.env.scope.kind = .function
  globals : c.env.globals = mainGlobals
  builtins : c.env.builtins = builtinsNs
  frame : c.env.frame = some c.env.locals
  stack : c.A.frames = some (c.env :: c.outer.map (·.1))
  outOk : ∀ p ∈ c.outer, p.1.scope.kind ≠ .module ∧ p.1.frame = some p.1.locals
  passes : PassesOwn (model c.prog c.w) c.A c.env c.E
  hE : ∀ e C H s, ExAt c.base H e C s.heap → RelH c H s → c.X C H → c.E (.ref e) s

/-- a call may be made: there is room, and no exception is being handled -/
structure Cx.Calls (c : Cx) (k : Nat) : Prop where
  handled : c.A.handled = none
  depth : c.A.depth + 2 * k ≤ 990
  units : c.A.units + 6 * k ≤ 9000

variable {c : Cx} {σ : St}

noncomputable def W (c : Cx) {α β : Type} (R : Heap → β → α → Prop) (t : Sem α) (σ : St) (Q : β → St → Prop) : Prop :=
  ∀ s, Rel c σ s → wpAny (model c.prog c.w) c.A t (fun a s' => ∃ b σ', R s'.heap b a ∧ Rel c σ' s' ∧ Evo s.heap s'.heap ∧ Q b σ') c.E s

noncomputable abbrev WV (c : Cx) (e : PySem.Expr) (σ : St) (Q : V → St → Prop) : Prop := W c VR (eval e c.env) σ Q
noncomputable abbrev WB (c : Cx) (e : PySem.Expr) (σ : St) (Q : Bool → St → Prop) : Prop := W c (fun _ (b : Bool) a => a = b) (isTrue e c.env (eval e c.env)) σ Q
inductive Fl where
  | next | brk | cont
  | ret (v : V)
noncomputable def FR (h : Heap) : Fl → Flow → Prop
  | .next, f => f = .next
  | .brk, f => f = .brk
  | .cont, f => f = .cont
  | .ret v, f => ∃ u, f = .ret u ∧ VR h v u
noncomputable abbrev WS (c : Cx) (st : Stmt) (σ : St) (Q : Fl → St → Prop) : Prop := W c FR (exec st c.env) σ Q
noncomputable abbrev WSs (c : Cx) (sts : List Stmt) (σ : St) (Q : Fl → St → Prop) : Prop := W c FR (execs sts c.env) σ Q
noncomputable abbrev WA (c : Cx) (es : List PySem.Expr) (pos : Pos) (σ : St) (Q : List V → St → Prop) : Prop := W c VRs (spliced (backTo pos (starEach es c.env))) σ Q

theorem W.mono {α β : Type} {R : Heap → β → α → Prop} {t : Sem α} {Q Q' : β → St → Prop} (h : W c R t σ Q) (hQ : ∀ b σ', Q b σ' → Q' b σ') : W c R t σ Q' :=
  fun s r => wpAny_mono (h s r) (fun _ _ ⟨b, σ', h1, h2, h3, h4⟩ => ⟨b, σ', h1, h2, h3, hQ _ _ h4⟩) fun _ _ x => x

/-- names may be forgotten -/
theorem W.weak {α β : Type} {R : Heap → β → α → Prop} {t : Sem α} {Q : β → St → Prop} {l' : List (N × V)} (h : W c R t ⟨l', σ.H⟩ Q) (hl : ∀ n v, lk l' n = some v → lk σ.loc n = some v) : W c R t σ Q :=
  fun s r => h s { r with locs := let ⟨m, e, q⟩ := r.locs; ⟨m, e, fun n v z => q n v (hl n v z)⟩ }
/-! expressions -/
theorem W.nameL (K : c.Ok) {n : N} {pos : Pos} {v : V} {Q : V → St → Prop} (hk : c.env.kindOf (nm n) = some .local) (hl : lk σ.loc n = some v) (h : Q v σ) : WV c (.Name (nm n) pos) σ Q := fun s r => by
  obtain ⟨m, hm, hq⟩ := r.locs
  obtain ⟨u, hu, hv⟩ := hq n v hl
  exact wpAny_Name (wpAny_loadName_local K.kind hk hm hu ⟨v, σ, hv, r, .refl _, h⟩) (nm_debug n)

theorem W.nameG (K : c.Ok) {n : N} {pos : Pos} {v : V} {Q : V → St → Prop} (hk : c.env.kindOf (nm n) = some .globalImplicit) (hl : lk GT n = some v) (h : Q v σ) : WV c (.Name (nm n) pos) σ Q := fun s r => by
  have e := List.all_eq_true.mp K.gt _ (lk_mem hl)
  obtain ⟨mg, hg⟩ := K.gl
  obtain ⟨mb, hb, hbb⟩ := K.bl
  have hg' : s.heap.Ns c.env.globals mg := by rw [K.globals]; exact hg.keeps r.keep
  have hb' : s.heap.Ns c.env.builtins mb := by rw [K.builtins]; exact hb.keeps r.keep
  have X : c.K.In s.heap := K.kin.keeps r.keep
  dsimp only at e
  split at e
  · rename_i u q
    exact Name_function_global K.kind hk (loadGlobal_global hg' (mg_of K.kin hg q) ⟨v, σ, vrB_ok X e, r, .refl _, h⟩) (nm_debug n)
  · rename_i q
    split at e
    · rename_i u q2
      exact Name_function_global K.kind hk (loadGlobal_builtin hg' (mg_none_of K.kin hg q) hb' ((hbb _ (nm_name n)).trans q2) ⟨v, σ, vrB_ok X e, r, .refl _, h⟩) (nm_debug n)
    · cases e
  · cases e

theorem W.nameC (K : c.Ok) {n : N} {pos : Pos} {v : V} {a : Addr} {Q : V → St → Prop} (hk : c.env.kindOf (nm n) = some .cell) (hc : c.env.cells.lookup (nm n) = some a) (hl : σ.H a = some (.cell (some v))) (h : Q v σ) : WV c (.Name (nm n) pos) σ Q := fun s r => by
  obtain ⟨o, h1, u, h2, h3⟩ := r.objs a _ hl
  exact wpAny_Name (wpAny_loadName_cell K.kind hk hc ⟨o, h1, h2⟩ ⟨v, σ, h3, r, .refl _, h⟩) (nm_debug n)

theorem W.cint {i : Int} {k : Nat} {pos : Pos} {Q : V → St → Prop} (h : Q (.int i) σ) : WV c (.Constant (.int i) k pos) σ Q :=
  fun s r => wpAny_Constant_int ⟨.int i, σ, ⟨_, rfl⟩, r.toks, .refl _, h⟩
theorem W.cstr {x : Str} {l : List Nat} {k : Nat} {pos : Pos} {Q : V → St → Prop} (hx : x = ⟨l.toArray⟩) (h : Q (.str l) σ) : WV c (.Constant (.str x) k pos) σ Q :=
  fun s r => wpAny_Constant_str ⟨.str l, σ, ⟨_, by rw [hx]⟩, r.toks, .refl _, h⟩
theorem W.cnone {k : Nat} {pos : Pos} {Q : V → St → Prop} (h : Q .none σ) : WV c (.Constant .none k pos) σ Q :=
  fun s r => wpAny_Constant_none ⟨.none, σ, rfl, r, .refl _, h⟩
theorem W.cbool {b : Bool} {k : Nat} {pos : Pos} {Q : V → St → Prop} (h : Q (.bool b) σ) : WV c (.Constant (.bool b) k pos) σ Q :=
  fun s r => wpAny_Constant_bool ⟨.bool b, σ, rfl, r, .refl _, h⟩

/-- what a binary word gives of two data -/
noncomputable def Bin (op : Operator) (x y z : V) : Prop := ∀ (prog : Program) (w : World) (A : Around) (E : Value → Shared → Prop) (s : Shared) (a b : Value) (Q : Value → Shared → Prop),
  VR s.heap x a → VR s.heap y b → (∀ u t, VR s.heap z u → Q u { s with toks := t }) → wpAny (model prog w) A (binaryOp op a b) Q E s
noncomputable def Inp (op : Operator) (x y z : V) : Prop := ∀ (prog : Program) (w : World) (A : Around) (E : Value → Shared → Prop) (s : Shared) (a b : Value) (Q : Value → Shared → Prop),
  VR s.heap x a → VR s.heap y b → (∀ u t, VR s.heap z u → Q u { s with toks := t }) → wpAny (model prog w) A (inplaceOp op a b) Q E s
/-- what a comparison gives of two data -/
noncomputable def Cmp (op : CmpOp) (x y : V) (r : Bool) : Prop := ∀ (prog : Program) (w : World) (A : Around) (E : Value → Shared → Prop) (s : Shared) (a b : Value) (Q : Value → Shared → Prop),
  A.units < 9800 → VR s.heap x a → VR s.heap y b → (∀ t, Q (.bool r) { s with toks := t }) → wpAny (model prog w) A (compareOp op a b) Q E s
noncomputable def Tru (x : V) (r : Bool) : Prop := ∀ (prog : Program) (w : World) (A : Around) (E : Value → Shared → Prop) (s : Shared) (a : Value) (Q : Bool → Shared → Prop),
  VR s.heap x a → Q r s → wpAny (model prog w) A (truthy a) Q E s

theorem W.binop {l r : PySem.Expr} {op : Operator} {pos : Pos} {Q : V → St → Prop}
    (h : WV c l σ fun x σ₁ => WV c r σ₁ fun y σ₂ => ∃ z, Bin op x y z ∧ Q z σ₂) : WV c (.BinOp l op r pos) σ Q := fun s R => by
  refine wpAny_BinOp (wpAny_mono (h s R) (fun a s₁ ⟨x, σ₁, h1, R1, e1, q1⟩ => ?_) fun _ _ x => x)
  refine wpAny_mono (q1 s₁ R1) (fun b s₂ ⟨y, σ₂, h2, R2, e2, z, hz, q2⟩ => ?_) fun _ _ x => x
  exact hz _ _ _ _ _ _ _ _ (h1.evo e2) h2 fun u t hu => ⟨z, σ₂, hu, R2.toks, e1.trans e2, q2⟩

theorem W.cmp (hu : c.A.units < 9800) {l r : PySem.Expr} {op : CmpOp} {pos : Pos} {Q : V → St → Prop}
    (h : WV c l σ fun x σ₁ => WV c r σ₁ fun y σ₂ => ∃ z, Cmp op x y z ∧ Q (.bool z) σ₂) (hm : behindInMarks op r = false := by with_unfolding_all rfl) : WV c (.Compare l [op] [r] pos) σ Q := fun s R => by
  refine wpAny_Compare1 (wpAny_mono (h s R) (fun a s₁ ⟨x, σ₁, h1, R1, e1, q1⟩ => ?_) fun _ _ x => x) hm
  refine wpAny_mono (q1 s₁ R1) (fun b s₂ ⟨y, σ₂, h2, R2, e2, z, hz, q2⟩ => ?_) fun _ _ x => x
  exact hz _ _ _ _ _ _ _ _ hu (h1.evo e2) h2 fun t => ⟨.bool z, σ₂, rfl, R2.toks, e1.trans e2, q2⟩

theorem W.ifexp {t b o : PySem.Expr} {pos : Pos} {Q : V → St → Prop}
    (h : WB c t σ fun x σ₁ => (x = true → WV c b σ₁ Q) ∧ (x = false → WV c o σ₁ Q)) : WV c (.IfExp t b o pos) σ Q := fun s R => by
  refine wpAny_IfExp (wpAny_mono (h s R) (fun a s₁ ⟨x, σ₁, h1, R1, e1, q1⟩ => ?_) fun _ _ x => x)
  subst h1
  cases a with
  | true => exact wpAny_mono (q1.1 rfl s₁ R1) (fun v s₂ ⟨y, σ₂, h2, R2, e2, q2⟩ => ⟨y, σ₂, h2, R2, e1.trans e2, q2⟩) fun _ _ x => x
  | false => exact wpAny_mono (q1.2 rfl s₁ R1) (fun v s₂ ⟨y, σ₂, h2, R2, e2, q2⟩ => ⟨y, σ₂, h2, R2, e1.trans e2, q2⟩) fun _ _ x => x

/-! tests -/
theorem W.tcmp (hu : c.A.units < 9800) {l r : PySem.Expr} {op : CmpOp} {pos : Pos} {Q : Bool → St → Prop}
    (h : WV c l σ fun x σ₁ => WV c r σ₁ fun y σ₂ => ∃ z, Cmp op x y z ∧ Q z σ₂) (hm : behindInMarks op r = false := by with_unfolding_all rfl) : WB c (.Compare l [op] [r] pos) σ Q := fun s R => by
  refine wpAny_isTrue_Compare1 (wpAny_mono (h s R) (fun a s₁ ⟨x, σ₁, h1, R1, e1, q1⟩ => ?_) fun _ _ x => x) hm
  refine wpAny_mono (q1 s₁ R1) (fun b s₂ ⟨y, σ₂, h2, R2, e2, z, hz, q2⟩ => ?_) fun _ _ x => x
  exact hz _ _ _ _ _ _ _ _ hu (h1.evo e2) h2 fun t => wpAny_truthy_bool ⟨z, σ₂, rfl, R2.toks, e1.trans e2, q2⟩
theorem W.tnot {x : PySem.Expr} {pos : Pos} {Q : Bool → St → Prop} (h : WB c x σ fun b σ₁ => Q (!b) σ₁) : WB c (.UnaryOp .Not x pos) σ Q := fun s R =>
  wpAny_isTrue_Not (wpAny_mono (h s R) (fun a s₁ ⟨x, σ₁, h1, R1, e1, q1⟩ => ⟨!x, σ₁, (by rw [h1]), R1, e1, q1⟩) fun _ _ x => x)
theorem W.tval {e : PySem.Expr} {Q : Bool → St → Prop} (h : WV c e σ fun v σ₁ => ∃ b, Tru v b ∧ Q b σ₁)
    (he : isTrue e c.env (eval e c.env) = (do let v ← eval e c.env; standAt e.pos; holding [v] (truthy v)) := by with_unfolding_all rfl) : WB c e σ Q := fun s R =>
  wpAny_isTrue_value (wpAny_mono (h s R) (fun a s₁ ⟨x, σ₁, h1, R1, e1, b, hb, q1⟩ => hb _ _ _ _ _ _ _ h1 ⟨b, σ₁, rfl, R1, e1, q1⟩) fun _ _ x => x) he

noncomputable abbrev WAll (c : Cx) (op : BoolOp) (es : List PySem.Expr) (σ : St) (Q : Bool → St → Prop) : Prop := W c (fun _ (b : Bool) a => a = b) (allTrue op es c.env) σ Q
theorem W.tbool {op : BoolOp} {es : List PySem.Expr} {pos : Pos} {Q : Bool → St → Prop} (h : WAll c op es σ Q) : WB c (.BoolOp op es pos) σ Q := fun s R => wpAny_isTrue_BoolOp (h s R)
theorem W.andNil {Q : Bool → St → Prop} (h : Q true σ) : WAll c .And [] σ Q := fun s R => wpAny_allTrue_And_nil ⟨true, σ, rfl, R, .refl _, h⟩
theorem W.orNil {Q : Bool → St → Prop} (h : Q false σ) : WAll c .Or [] σ Q := fun s R => wpAny_allTrue_Or_nil ⟨false, σ, rfl, R, .refl _, h⟩
theorem W.andCons {x : PySem.Expr} {es : List PySem.Expr} {Q : Bool → St → Prop} (h : WB c x σ fun b σ₁ => (b = true → WAll c .And es σ₁ Q) ∧ (b = false → Q false σ₁)) : WAll c .And (x :: es) σ Q := fun s R => by
  refine wpAny_allTrue_And_cons (wpAny_mono (h s R) (fun a s₁ ⟨x, σ₁, h1, R1, e1, q1⟩ => ?_) fun _ _ x => x)
  subst h1
  cases a with
  | true => exact wpAny_mono (q1.1 rfl s₁ R1) (fun v s₂ ⟨y, σ₂, h2, R2, e2, q2⟩ => ⟨y, σ₂, h2, R2, e1.trans e2, q2⟩) fun _ _ x => x
  | false => exact ⟨false, σ₁, rfl, R1, e1, q1.2 rfl⟩
theorem W.orCons {x : PySem.Expr} {es : List PySem.Expr} {Q : Bool → St → Prop} (h : WB c x σ fun b σ₁ => (b = true → Q true σ₁) ∧ (b = false → WAll c .Or es σ₁ Q)) : WAll c .Or (x :: es) σ Q := fun s R => by
  refine wpAny_allTrue_Or_cons (wpAny_mono (h s R) (fun a s₁ ⟨x, σ₁, h1, R1, e1, q1⟩ => ?_) fun _ _ x => x)
  subst h1
  cases a with
  | true => exact ⟨true, σ₁, rfl, R1, e1, q1.1 rfl⟩
  | false => exact wpAny_mono (q1.2 rfl s₁ R1) (fun v s₂ ⟨y, σ₂, h2, R2, e2, q2⟩ => ⟨y, σ₂, h2, R2, e1.trans e2, q2⟩) fun _ _ x => x

/-! statements -/
noncomputable def seqK (c : Cx) (rest : List Stmt) (Q : Fl → St → Prop) : Fl → St → Prop
  | .next, σ => WSs c rest σ Q
  | .brk, σ => Q .brk σ
  | .cont, σ => Q .cont σ
  | .ret v, σ => Q (.ret v) σ
theorem W.nil {Q : Fl → St → Prop} (h : Q .next σ) : WSs c [] σ Q := fun s R => wpAny_execs_nil ⟨.next, σ, rfl, R, .refl _, h⟩
theorem W.cons {st : Stmt} {rest : List Stmt} {Q : Fl → St → Prop} (h : WS c st σ (seqK c rest Q)) : WSs c (st :: rest) σ Q := fun s R => by
  refine wpAny_execs_cons (wpAny_mono (h s R) (fun f s₁ ⟨x, σ₁, h1, R1, e1, q1⟩ => ?_) fun _ _ x => x)
  cases x with
  | next =>
    cases h1
    exact wpAny_mono (q1 s₁ R1) (fun v s₂ ⟨y, σ₂, h2, R2, e2, q2⟩ => ⟨y, σ₂, h2, R2, e1.trans e2, q2⟩) fun _ _ x => x
  | brk => cases h1; exact ⟨.brk, σ₁, rfl, R1, e1, q1⟩
  | cont => cases h1; exact ⟨.cont, σ₁, rfl, R1, e1, q1⟩
  | ret v => obtain ⟨u, rfl, hu⟩ := h1; exact ⟨.ret v, σ₁, ⟨u, rfl, hu⟩, R1, e1, q1⟩
theorem W.retE {e : PySem.Expr} {pos : Pos} {Q : Fl → St → Prop} (h : WV c e σ fun v σ₁ => Q (.ret v) σ₁) : WS c (.Return (some e) pos) σ Q := fun s R =>
  wpAny_Return_some (wpAny_mono (h s R) (fun a s₁ ⟨x, σ₁, h1, R1, e1, q1⟩ => ⟨.ret x, σ₁, ⟨a, rfl, h1⟩, R1, e1, q1⟩) fun _ _ x => x)
theorem W.retN {pos : Pos} {Q : Fl → St → Prop} (h : Q (.ret .none) σ) : WS c (.Return none pos) σ Q := fun s R => wpAny_Return_none ⟨.ret .none, σ, ⟨_, rfl, rfl⟩, R, .refl _, h⟩
theorem W.brk {pos : Pos} {Q : Fl → St → Prop} (h : Q .brk σ) : WS c (.Break pos) σ Q := fun s R => wpAny_Break ⟨.brk, σ, rfl, R, .refl _, h⟩
theorem W.cont {pos : Pos} {Q : Fl → St → Prop} (h : Q .cont σ) : WS c (.Continue pos) σ Q := fun s R => wpAny_Continue ⟨.cont, σ, rfl, R, .refl _, h⟩
theorem W.ite {t : PySem.Expr} {b o : List Stmt} {pos : Pos} {Q : Fl → St → Prop}
    (h : WB c t σ fun x σ₁ => (x = true → WSs c b σ₁ Q) ∧ (x = false → WSs c o σ₁ Q)) : WS c (.If t b o pos) σ Q := fun s R => by
  refine wpAny_If (wpAny_mono (h s R) (fun a s₁ ⟨x, σ₁, h1, R1, e1, q1⟩ => ?_) fun _ _ x => x)
  subst h1
  cases a with
  | true => exact wpAny_mono (q1.1 rfl s₁ R1) (fun v s₂ ⟨y, σ₂, h2, R2, e2, q2⟩ => ⟨y, σ₂, h2, R2, e1.trans e2, q2⟩) fun _ _ x => x
  | false => exact wpAny_mono (q1.2 rfl s₁ R1) (fun v s₂ ⟨y, σ₂, h2, R2, e2, q2⟩ => ⟨y, σ₂, h2, R2, e1.trans e2, q2⟩) fun _ _ x => x
theorem W.assert {t : PySem.Expr} {msg : Option PySem.Expr} {pos : Pos} {Q : Fl → St → Prop} (h : WB c t σ fun x σ₁ => x = true ∧ Q .next σ₁) : WS c (.Assert t msg pos) σ Q := fun s R =>
  wpAny_Assert_holds (wpAny_mono (h s R) (fun a s₁ ⟨x, σ₁, h1, R1, e1, q0, q1⟩ => ⟨h1.trans q0, .next, σ₁, rfl, R1, e1, q1⟩) fun _ _ x => x)
theorem W.expr (K : c.Ok) {e : PySem.Expr} {pos : Pos} {Q : Fl → St → Prop} (h : WV c e σ fun _ σ₁ => Q .next σ₁) (hs : swapsWith e none pos.line c.env = pure false := by rfl) : WS c (.Expr e pos) σ Q := fun s R =>
  wpAny_Expr_any (wpAny_mono (h s R) (fun a s₁ ⟨x, σ₁, h1, R1, e1, q1⟩ => ⟨.next, σ₁, rfl, R1, e1, q1⟩) fun _ _ x => x) (by unfold interactive; rw [K.kind]; rfl) hs

/-- a local name is stored -/
theorem storeL (K : c.Ok) {n : N} {v : V} {u : Value} {s : Shared} {E : Value → Shared → Prop} {Q : Unit → Shared → Prop} (hk : c.env.kindOf (nm n) = some .local) (R : Rel c σ s) (hv : VR s.heap v u)
    (h : ∀ s', Rel c ⟨(n, v) :: σ.loc, σ.H⟩ s' → Evo s.heap s'.heap → Q () s') : wpAny (model c.prog c.w) c.A (storeName c.env (nm n) u) Q E s := by
  obtain ⟨m, hm, hq⟩ := R.locs
  refine wpAny_storeName_local hk hm (fun h' hn hs => ?_) (by rw [K.kind]; rfl)
  obtain ⟨R', ev⟩ := R.setLoc (l' := (n, v) :: σ.loc) K.toFine (t := s.toks + 1) hs hn fun ev => (hq.evo ev).cons (hv.evo ev)
  exact h _ R' ev
end Mine

end
section
open PySem PySem.W PySem.Calls PyProof.Rows
set_option maxRecDepth 100000
set_option linter.all false
namespace Mine
variable {c : Cx} {σ : St}

/-- an attribute is stored -/
theorem storeA (K : c.Ok) {a C : Addr} {fs : List (N × V)} {n : N} {v : V} {u : Value} {s : Shared} {E : Value → Shared → Prop} {Q : Unit → Shared → Prop} (R : Rel c σ s) (hH : σ.H a = some (.inst C fs))
    (hat : attOf C n = true) (hsz : fs.length ≤ 100) (hv : VR s.heap v u)
    (h : ∀ s', Rel c ⟨σ.loc, σ.H.upd a (.inst C (put fs n v))⟩ s' → Evo s.heap s'.heap → Q () s') : wpAny (model c.prog c.w) c.A (setAttr (.ref a) (nm n) u) Q E s := by
  have hO := R.objs a _ hH
  refine setAttr_inst (K.kin.keeps R.keep) hO (attB_ok K.att hat).2 (fun h' t' ox d m h1 h2 h3 h4 h5 h6 h7 h8 h9 h10 => ?_) hsz
  obtain ⟨od, es, nn, g1, g2⟩ := h8
  have had : a ≠ d := by rintro rfl; rw [h1] at g1; cases g1; rw [h2] at g2; cases g2
  have hoth : ∀ b o, b ≠ a → σ.H b = some o → b ≠ d ∧ ∀ ob d', s.heap.get? b = some ob → ob.dict = some d' → (∃ C fs, o = .inst C fs) → d' ≠ d := fun b o hb e => by
    obtain ⟨ob, q1, q2, _⟩ := (R.objs b o e).exists
    refine ⟨?_, ?_⟩
    · rintro rfl; rw [g1] at q1; cases q1; exact q2 _ _ g2
    · rintro ob' d' k1 k2 ⟨C', fs', rfl⟩ rfl
      exact hb (R.dinj b a C' fs' C fs ob' ox _ e hH k1 h1 k2 h4)
  obtain ⟨R', ev⟩ := R.changeAt (h' := h') (t := t') d a (.inst C (put fs n v)) g1 h6 h5 (.inr fun xs n e => by rw [g2] at e; cases e) (fun x o hx e => (h10.2 x hx).trans e)
    (fun ev => ⟨ox, d, _, (h10.2 a had).trans h1, h3, h2, h4, h5, h6, h9, (h7.evo ev).put (hv.evo ev)⟩) (R.new a _ hH) hoth (fun C' fs' e => ⟨⟨C, fs, hH⟩, had⟩)
  exact h _ R' ev

/-! displays -/
theorem W.anil {pos : Pos} {Q : List V → St → Prop} (h : Q [] σ) : WA c [] pos σ Q := fun s R => wpAny_items_nil ⟨[], σ, rfl, R, .refl _, h⟩
theorem W.acons {e : PySem.Expr} {rest : List PySem.Expr} {pos : Pos} {Q : List V → St → Prop}
    (h : WV c e σ fun v σ₁ => WA c rest pos σ₁ fun vs σ₂ => Q (v :: vs) σ₂) (he : starEach (e :: rest) c.env = (false, eval e c.env) :: starEach rest c.env := by with_unfolding_all rfl) : WA c (e :: rest) pos σ Q := fun s R => by
  refine wpAny_items_cons (wpAny_mono (h s R) (fun u s₁ ⟨v, σ₁, h1, R1, e1, q1⟩ => ?_) fun _ _ x => x) he
  exact wpAny_mono (q1 s₁ R1) (fun us s₂ ⟨vs, σ₂, h2, R2, e2, q2⟩ => ⟨v :: vs, σ₂, ⟨_, _, rfl, h1.evo e2, h2⟩, R2, e1.trans e2, q2⟩) fun _ _ x => x

theorem isTup_new (h : Heap) (us : List Value) : IsTup (h.push { cls := .type "tuple", data := .seq us.toArray }) h.objs.size us.toArray := ⟨_, Heap.get?_push_size _ rfl, rfl, _, rfl⟩
theorem W.tuple {elts : List PySem.Expr} {k : Nat} {pos : Pos} {Q : V → St → Prop} (h : WA c elts pos σ fun vs σ₁ => vs.length ≤ 100 ∧ Q (.tup vs) σ₁) : WV c (.Tuple elts k pos) σ Q := fun s R => by
  refine wpAny_Tuple (wpAny_mono (h s R) (fun us s₁ ⟨vs, σ₁, h1, R1, e1, hl, q1⟩ => ?_) fun _ _ x => x)
  refine ⟨by rw [h1.length, sizeLine_eq]; omega, ?_⟩
  exact ⟨.tup vs, σ₁, ⟨_, us, rfl, isTup_new _ _, h1.evo (.push _ _)⟩, R1.push (t := s₁.toks), e1.trans (.push _ _), q1⟩

theorem newList_rel {s : Shared} {vs : List V} {us : List Value} {t : Nat} (R : Rel c σ s) (h : VRs s.heap vs us) :
    Rel c ⟨σ.loc, σ.H.upd s.heap.objs.size (.list vs)⟩ { s with heap := s.heap.push { cls := .type "list", data := .seq us.toArray }, toks := t } ∧ Evo s.heap (s.heap.push { cls := .type "list", data := .seq us.toArray }) ∧ σ.H s.heap.objs.size = none := by
  refine R.alloc _ _ (fun _ _ e => Heap.get?_push_of_some _ e) ?_ ⟨_, us, 0, Heap.get?_push_size _ rfl, rfl, rfl, rfl, h.evo (.push _ _)⟩ fun ob d e1 e2 => ?_
  · cases q : s.heap.get? s.heap.objs.size with
    | none => rfl
    | some o => exact absurd (Heap.lt_size q) (Nat.lt_irrefl _)
  · rw [Heap.get?_push_size _ rfl] at e1; cases e1; cases e2
theorem W.list {elts : List PySem.Expr} {pos : Pos} {Q : V → St → Prop} (h : WA c elts pos σ fun vs σ₁ => vs.length ≤ 100 ∧ ∀ a, σ₁.H a = none → Q (.ref a) ⟨σ₁.loc, σ₁.H.upd a (.list vs)⟩) : WV c (.List elts pos) σ Q := fun s R => by
  refine wpAny_List (wpAny_mono (h s R) (fun us s₁ ⟨vs, σ₁, h1, R1, e1, hl, q1⟩ => ?_) fun _ _ x => x)
  refine ⟨by rw [h1.length, sizeLine_eq]; omega, ?_⟩
  obtain ⟨R', e', hn⟩ := newList_rel (t := s₁.toks) R1 h1
  exact ⟨.ref _, _, rfl, R', e1.trans e', q1 _ hn⟩

/-! subscripts -/
theorem OR.isList {base : Heap} {F : List Addr} {h : Heap} {a : Addr} {vs : List V} (r : OR base F h a (.list vs)) : ∃ xs, h.IsList a xs.toArray ∧ VRs h vs xs :=
  let ⟨o, xs, n, h1, h2, h3, hdn, h4⟩ := r; ⟨xs, ⟨o, h1, h2, n, h3⟩, h4⟩

/-- an item at a place, as data -/
noncomputable def Item (H : Hp) (x y z : V) : Prop :=
  (∃ vs k, x = .tup vs ∧ y = .int k ∧ 0 ≤ k ∧ k < 2 ^ 60 ∧ vs[k.toNat]? = some z) ∨
  (∃ a vs k, x = .ref a ∧ H a = some (.list vs) ∧ y = .int k ∧ 0 ≤ k ∧ k < 2 ^ 60 ∧ vs[k.toNat]? = some z) ∨
  (∃ a vs, x = .ref a ∧ H a = some (.list vs) ∧ y = .int (-1) ∧ vs.length < 2 ^ 60 ∧ vs.getLast? = some z) ∨
  (∃ l k n, x = .str l ∧ y = .int k ∧ 0 ≤ k ∧ k < 2 ^ 60 ∧ l[k.toNat]? = some n ∧ z = .str [n])

theorem seqIndex_nn {k : Int} {n : Nat} (h0 : 0 ≤ k) (h : k.toNat < n) : seqIndex? k n = some k.toNat := by
  unfold seqIndex?
  simp only [show ¬ (k < 0) from by omega, if_false]
  rw [if_pos (by simp; omega)]

/-! slices -/
theorem clip_eq (a L : Nat) : max (0 : Int) (min (a : Int) (L : Int)) = ((min a L : Nat) : Int) := by omega
theorem sl_a {a b L : Nat} (h : L ≤ b) (h2 : a ≤ L) : L - a ≤ b - a := by omega
theorem pick_sl {α : Type} (l : List α) (a b : Nat) : ((List.range (min b l.length - min a l.length)).map (min a l.length + ·)).filterMap (l[·]?) = (l.drop a).take (b - a) := by
  have hp := pick_run l.toArray (min a l.length) (min b l.length - min a l.length)
  simp only [List.getElem?_toArray] at hp
  refine hp.trans ?_
  by_cases h : a ≤ l.length
  · rw [Nat.min_eq_left h]
    by_cases h2 : b ≤ l.length
    · rw [Nat.min_eq_left h2]
    · have h2 := Nat.le_of_not_le h2
      rw [Nat.min_eq_right h2, List.take_of_length_le (by rw [List.length_drop]; exact Nat.le_refl _), List.take_of_length_le (by rw [List.length_drop]; exact sl_a h2 h)]
  · have h := Nat.le_of_not_le h
    rw [Nat.min_eq_right h, List.drop_of_length_le (Nat.le_refl _), List.drop_of_length_le h, List.take_nil, List.take_nil]
theorem pickRange {α : Type} (l : List α) (a b : Nat) : (sliceRange (max 0 (min (a : Int) l.length)) (max 0 (min (b : Int) l.length)) 1).filterMap (l[·]?) = (l.drop a).take (b - a) := by
  rw [clip_eq, clip_eq, sliceRange_one]
  exact pick_sl l a b

noncomputable def sliceL {α : Type} (l : List α) (a b : Int) : List α := (l.drop a.toNat).take (b.toNat - a.toNat)

theorem picks_eq (l : List Nat) (b : Nat) (u : Tok) (a : Option (Int × Tok)) (a' : Nat) (ha : a = none ∧ a' = 0 ∨ ∃ u, a = some ((a' : Int), u)) : slicePicked ⟨l.toArray⟩ a (some ((b : Int), u)) none = (List.range (min b l.length - min a' l.length)).map (min a' l.length + ·) := by
  have nb : ¬ ((b : Int) < 0) := Int.not_lt.mpr (Int.natCast_nonneg b)
  have na : ¬ ((a' : Int) < 0) := Int.not_lt.mpr (Int.natCast_nonneg a')
  rw [← sliceRange_one, ← clip_eq, ← clip_eq]
  rcases ha with ⟨rfl, rfl⟩ | ⟨u', rfl⟩
  · rw [clip_eq 0, Nat.zero_min]
    simp only [slicePicked, Builtin.Str.strSliceIndices, Option.map_none, Option.map_some, Option.getD_none, Str.length, List.size_toArray, gt_iff_lt, Int.zero_lt_one, if_true, nb, if_false]
    rfl
  · simp only [slicePicked, Builtin.Str.strSliceIndices, Option.map_none, Option.map_some, Option.getD_none, Str.length, List.size_toArray, gt_iff_lt, Int.zero_lt_one, if_true, nb, na, if_false]
theorem sl_0 {a b L : Nat} (h : min b L - min a L = L) (hz : ¬ L = 0) : a = 0 ∧ L ≤ b := by omega
theorem sl_full {l : List Nat} {a b : Nat} (h : min b l.length - min a l.length = l.length) : (l.drop a).take (b - a) = l := by
  by_cases hz : l.length = 0
  · have : l = [] := List.length_eq_zero_iff.mp hz
    subst this; rw [List.drop_nil, List.take_nil]
  · obtain ⟨h1, h2⟩ := sl_0 h hz
    subst h1
    rw [List.drop_zero, Nat.sub_zero, List.take_of_length_le h2]
theorem made_slice (l : List Nat) (t : Tok) (a b : Option (Int × Tok)) (a' b' : Int) (ha : a = none ∧ a' = 0 ∨ ∃ u, a = some (a', u)) (hb : ∃ u, b = some (b', u)) (h0 : 0 ≤ a') (h1 : 0 ≤ b') {Q : Value → Shared → Prop} {s : Shared}
    (hl : l.length ≤ sizeLine) (hq : ∀ t' tk, Q (.str ⟨(sliceL l a' b').toArray⟩ t') { s with toks := tk }) : (sliceMade ⟨l.toArray⟩ t a b none).post Q s := by
  obtain ⟨u, rfl⟩ := hb
  obtain ⟨a', rfl⟩ := Int.eq_ofNat_of_zero_le h0
  obtain ⟨b', rfl⟩ := Int.eq_ofNat_of_zero_le h1
  have hp := picks_eq l b' u a a' (ha.imp (fun h => ⟨h.1, Int.ofNat.inj h.2⟩) fun h => h)
  have key : (slicePicked ⟨l.toArray⟩ a (some ((b' : Int), u)) none).filterMap ((⟨l.toArray⟩ : Str).cps[·]?) = sliceL l (a' : Int) (b' : Int) := by
    rw [hp]
    have z := pick_sl l a' b'
    simp only [List.getElem?_toArray]
    exact z
  unfold sliceMade
  split
  · rename_i hc
    have hc := beq_iff_eq.mp (Bool.and_eq_true_iff.mp hc).2
    rw [hp, List.length_map, List.length_range] at hc
    have hfull : sliceL l (a' : Int) (b' : Int) = l := sl_full (hc.trans (by simp [Str.length]))
    have := hq t s.toks
    rw [hfull] at this
    exact this
  · refine ⟨?_, ?_⟩
    · rw [key]
      show (sliceL l (a' : Int) (b' : Int)).toArray.size ≤ sizeLine
      rw [List.size_toArray]
      refine Nat.le_trans ?_ hl
      unfold sliceL
      rw [List.length_take, List.length_drop]
      exact Nat.le_trans (Nat.min_le_right _ _) (Nat.sub_le _ _)
    · rw [key]; exact hq _ _

end Mine

end
section
open PySem PySem.W PySem.Calls PyProof.Rows
set_option maxRecDepth 100000
set_option linter.all false
namespace Mine
variable {c : Cx} {σ : St}

/-! slices -/
theorem sliced_seq (p : Pos) (lo up : Option PySem.Expr) (o v : Value) : subscripted (.Slice lo up none p) false o v = operate [v, o] (getItem o v) := rfl
theorem W.sliceStr0 {e up : PySem.Expr} {p pos : Pos} {Q : V → St → Prop}
    (h : WV c e σ fun x σ₁ => WV c up σ₁ fun z σ₃ => ∃ l b, x = .str l ∧ z = .int b ∧ l.length ≤ 1000000 ∧ 0 ≤ b ∧ Q (.str (sliceL l 0 b)) σ₃) :
    WV c (.Subscript e (.Slice none (some up) none p) pos) σ Q := fun s R => by
  refine Subscript_ (wpAny_mono (h s R) (fun o s₁ ⟨x, σ₁, h1, R1, e1, q1⟩ => ?_) fun _ _ x => x)
  refine wpAny_Slice (wpAny_evalPart_none ?_)
  refine wpAny_evalPart_some (wpAny_mono (q1 s₁ R1) (fun u₂ s₃ ⟨z, σ₃, h3, R3, e3, l, b, ex, ez, hl, hb, q3⟩ => wpAny_evalPart_none ?_) fun _ _ x => x)
  subst ex ez
  obtain ⟨t, rfl⟩ := h1
  obtain ⟨t2, rfl⟩ := h3
  refine tail_any (typeIs_str _ _ _) PySem.F.slot_str_getitem.lookup (wpAny_getItem_str_slice (l := none) (u := some (b, t2)) (st := none) ⟨_, Heap.get?_push_size _ rfl, rfl, rfl⟩ (by decide) ?_) (sliced_seq _ _ _ _ _)
  refine made_slice l t _ _ 0 b (.inl ⟨rfl, rfl⟩) ⟨_, rfl⟩ (by omega) hb (by rw [sizeLine_eq]; omega) fun t' tk => ?_
  exact ⟨.str (sliceL l 0 b), σ₃, ⟨t', rfl⟩, R3.push, (e1.trans e3).trans (.push _ _), q3⟩

theorem slicePick_nn (xs : List Value) (a b : Int) (h0 : 0 ≤ a) (h1 : 0 ≤ b) : slicePick xs.toArray (some a) (some b) none = (sliceL xs a b).toArray := by
  have := pickRange xs a.toNat b.toNat
  unfold slicePick sliceBounds
  unfold sliceL
  rw [← this]
  simp only [Option.getD_none, gt_iff_lt, Int.zero_lt_one, if_true, show ¬ a < 0 from by omega, show ¬ b < 0 from by omega, if_false, List.size_toArray]
  have e0 : ((a.toNat : Nat) : Int) = a := by omega
  have e1 : ((b.toNat : Nat) : Int) = b := by omega
  rw [e0, e1]
  congr 2
  funext k
  simp
theorem VRs.sliceL {h : Heap} {vs : List V} {xs : List Value} (r : VRs h vs xs) (a b : Int) : VRs h (sliceL vs a b) (sliceL xs a b) := (r.drop _).take _
/-! stores into targets -/
noncomputable def WT (c : Cx) (t : PySem.Expr) (v : V) (σ : St) (Q : St → Prop) : Prop :=
  ∀ s u, Rel c σ s → VR s.heap v u → wpAny (model c.prog c.w) c.A (assign t c.env u) (fun _ s' => ∃ σ', Rel c σ' s' ∧ Evo s.heap s'.heap ∧ Q σ') c.E s
noncomputable def WTs (c : Cx) : List PySem.Expr → List V → St → (St → Prop) → Prop
  | [], [], σ, Q => Q σ
  | t :: ts, v :: vs, σ, Q => WT c t v σ fun σ₁ => WTs c ts vs σ₁ Q
  | _, _, _, _ => False
theorem storeC (K : c.Ok) {n : N} {v : V} {a : Addr} {o : Option V} {u : Value} {s : Shared} {E : Value → Shared → Prop} {Q : Unit → Shared → Prop} (hk : c.env.kindOf (nm n) = some .cell)
    (hc : c.env.cells.lookup (nm n) = some a) (hH : σ.H a = some (.cell o)) (R : Rel c σ s) (hv : VR s.heap v u)
    (h : ∀ s', Rel c ⟨σ.loc, σ.H.upd a (.cell (some v))⟩ s' → Evo s.heap s'.heap → Q () s') : wpAny (model c.prog c.w) c.A (storeName c.env (nm n) u) Q E s := by
  have hO := R.objs a _ hH
  obtain ⟨ob, h1, h2⟩ := id hO
  have hcell : ∃ w, ob.data = .cell w := by cases o with
    | none => exact ⟨_, h2⟩
    | some v => obtain ⟨w, q, _⟩ := h2; exact ⟨_, q⟩
  obtain ⟨w₀, hw⟩ := hcell
  refine wpAny_storeName_cell K.kind hk hc ⟨ob, h1, hw⟩ fun h' hn hs => ?_
  obtain ⟨ob', g1, g2⟩ := hn
  have hF : a ∉ c.frames := fun hm => by
    rcases List.mem_cons.mp hm with q | q
    · obtain ⟨m, o2, es, ep, z1, z2, _⟩ := R.cur
      rw [← q, h1] at z1; cases z1; rw [hw] at z2; cases z2
    · obtain ⟨p, hp, q⟩ := List.mem_map.mp q
      obtain ⟨o2, es, ep, z1, z2, _⟩ := R.outs p hp
      rw [q, h1] at z1; cases z1; rw [hw] at z2; cases z2
  obtain ⟨R', ev⟩ := R.changeAt (h' := h') (t := s.toks) a a (.cell (some v)) h1 (R.new a _ hH) hF (.inr fun xs n e => by rw [hw] at e; cases e) (fun x o hx e => (hs.2 x hx).trans e)
    (fun ev => ⟨ob', g1, u, g2, hv.evo ev⟩) (R.new a _ hH)
    (fun b o hb e => ⟨hb, fun ob2 d k1 k2 ⟨C, fs, ho⟩ hd => by
      subst ho
      obtain ⟨o3, d', m, y1, y2, y3, y4, y5, y6, y7, _⟩ := R.objs b _ e
      rw [y1] at k1; cases k1; rw [y4] at k2; cases k2
      obtain ⟨o4, es, ep, z1, z2, _⟩ := y7
      rw [hd, h1] at z1; cases z1; rw [hw] at z2; cases z2⟩) (fun C fs e => by cases e)
  exact h _ R' ev
theorem WT.nameC (K : c.Ok) {n : N} {p : Pos} {v : V} {a : Addr} {o : Option V} {Q : St → Prop} (hk : c.env.kindOf (nm n) = some .cell) (hc : c.env.cells.lookup (nm n) = some a) (hH : σ.H a = some (.cell o))
    (h : Q ⟨σ.loc, σ.H.upd a (.cell (some v))⟩) : WT c (.Name (nm n) p) v σ Q := fun s u R hv =>
  wpAny_assign_Name (storeC K hk hc hH R hv fun s' R' e' => ⟨_, R', e', h⟩)
theorem W.assignC (K : c.Ok) {n : N} {p pos : Pos} {e : PySem.Expr} {Q : Fl → St → Prop} (hk : c.env.kindOf (nm n) = some .cell)
    (h : WV c e σ fun v σ₁ => ∃ a o, c.env.cells.lookup (nm n) = some a ∧ σ₁.H a = some (.cell o) ∧ Q .next ⟨σ₁.loc, σ₁.H.upd a (.cell (some v))⟩) (hs : swapsWith e (some (.Name (nm n) p)) pos.line c.env = pure false := by rfl) : WS c (.Assign [.Name (nm n) p] e pos) σ Q := fun s R =>
  wpAny_Assign_Name (wpAny_mono (h s R) (fun a s₁ ⟨x, σ₁, h1, R1, e1, b, o, hc, hH, q1⟩ => storeC K hk hc hH R1 h1 fun s₂ R2 e2 => ⟨.next, _, rfl, R2, e1.trans e2, q1⟩) fun _ _ x => x) hs

theorem WTs.run {ts : List PySem.Expr} : ∀ {vs : List V} {σ : St} {Q : St → Prop}, WTs c ts vs σ Q → ∀ s us, Rel c σ s → VRs s.heap vs us →
    wpAny (model c.prog c.w) c.A (assignInOrder (ts.map fun t => assign t c.env) us) (fun _ s' => ∃ σ', Rel c σ' s' ∧ Evo s.heap s'.heap ∧ Q σ') c.E s := by
  induction ts with
  | nil =>
    intro vs σ Q h s us R hr
    cases vs with
    | nil => cases hr; exact wpAny_assignInOrder_none ⟨σ, R, .refl _, h⟩
    | cons v vs => exact h.elim
  | cons t ts ih =>
    intro vs σ Q h s us R hr
    cases vs with
    | nil => exact h.elim
    | cons v vs =>
      obtain ⟨u, us', rfl, h1, h2⟩ := hr
      refine wpAny_assignInOrder_more (wpAny_mono (h s u R h1) (fun _ s₁ ⟨σ₁, R1, e1, q1⟩ => ?_) fun _ _ x => x)
      exact wpAny_mono (ih q1 s₁ us' R1 (h2.evo e1)) (fun _ s₂ ⟨σ₂, R2, e2, q2⟩ => ⟨σ₂, R2, e1.trans e2, q2⟩) fun _ _ x => x

theorem W.assignT (hh : c.A.handled = none) {elts : List PySem.Expr} {k : Nat} {p pos : Pos} {e : PySem.Expr} {Q : Fl → St → Prop}
    (h : WV c e σ fun v σ₁ => ∃ vs, v = .tup vs ∧ vs.length = elts.length ∧ WTs c elts vs σ₁ fun σ₂ => Q .next σ₂)
    (he : assignEach elts c.env = elts.map fun t => (false, assign t c.env) := by with_unfolding_all rfl)
    (hs : swapsWithSole [.Tuple elts k p] e pos.line c.env = pure false := by with_unfolding_all rfl) (hw : swappedStores [.Tuple elts k p] e c.env = pure none := by with_unfolding_all rfl) :
    WS c (.Assign [.Tuple elts k p] e pos) σ Q := fun s R => by
  refine wpAny_Assign_stores (wpAny_mono (h s R) (fun u s₁ ⟨v, σ₁, h1, R1, e1, vs, ev, hlen, q1⟩ => ?_) fun _ _ x => x) hs hw
  subst ev
  obtain ⟨a, xs, rfl, ht, hr⟩ := h1
  show wpAny _ _ (assignAll (.ref a) [assign (.Tuple elts k p) c.env]) _ _ _
  refine wpAny_assign_Tuple hh ht (by rw [he, List.length_map, List.size_toArray, hr.length, hlen]) ?_ fun h' hx => ?_
  · rw [he, List.findIdx?_eq_none_iff]
    intro x hx
    obtain ⟨t, _, rfl⟩ := List.mem_map.mp hx
    rfl
  · have kp : ∀ b o, s₁.heap.get? b = some o → h'.get? b = some o := fun b o q => hx b o (Nat.ne_of_lt (Heap.lt_size q)) q
    rw [he, List.map_map]
    refine wpAny_mono (q1.run _ xs (R1.keeps (h' := h') (t := s₁.toks) kp) (hr.evo (.of_keep kp))) (fun _ s₂ ⟨σ₂, R2, e2, q2⟩ => ⟨.next, σ₂, rfl, R2, (e1.trans (.of_keep kp)).trans e2, q2⟩) fun _ _ x => x

end Mine

end
section
open PySem PySem.W PySem.Calls PyProof.Rows
set_option maxRecDepth 100000
set_option linter.all false
namespace Mine
variable {c : Cx} {σ : St}

noncomputable def whK (I : Nat → St → Prop) (n : Nat) (Q : Fl → St → Prop) : Fl → St → Prop
  | .next, σ => ∃ m, m < n ∧ I m σ
  | .cont, σ => ∃ m, m < n ∧ I m σ
  | .brk, σ => Q .next σ
  | .ret v, σ => Q (.ret v) σ

theorem W.while (K : c.Ok) {test : PySem.Expr} {body orelse : List Stmt} {pos : Pos} {Q : Fl → St → Prop} (I : Nat → St → Prop) (n : Nat) (hI : I n σ)
    (step : ∀ n σ, I n σ → WB c test σ fun b σ₁ => (b = true → WSs c body σ₁ (whK I n Q)) ∧ (b = false → WSs c orelse σ₁ Q)) : WS c (.While test body orelse pos) σ Q := fun s R => by
  refine wpAny_While (codeAny_whileLoop (fun n s' => ∃ σ', I n σ' ∧ Rel c σ' s' ∧ Evo s.heap s'.heap) ?_ n ⟨σ, hI, R, .refl _⟩)
  rintro n s₀ ⟨σ₀, hI0, R0, e0⟩
  refine wpAny_passesOwn K.passes (wpAny_mono (step n σ₀ hI0 s₀ R0) (fun b s₁ ⟨x, σ₁, h1, R1, e1, q1, q2⟩ => ?_) fun _ _ x => x)
  subst h1
  cases b with
  | true =>
    rw [if_pos rfl]
    refine wpAny_passesOwn K.passes (wpAny_mono (q1 rfl s₁ R1) (fun f s₂ ⟨y, σ₂, h2, R2, e2, q⟩ => ?_) fun _ _ x => x)
    have ev := (e0.trans e1).trans e2
    cases y with
    | next => cases h2; obtain ⟨m, hm, hi⟩ := q; exact ⟨m, hm, σ₂, hi, R2, ev⟩
    | cont => cases h2; obtain ⟨m, hm, hi⟩ := q; exact ⟨m, hm, σ₂, hi, R2, ev⟩
    | brk => cases h2; exact ⟨.next, σ₂, rfl, R2, ev, q⟩
    | ret v => obtain ⟨u, rfl, hu⟩ := h2; exact ⟨.ret v, σ₂, ⟨u, rfl, hu⟩, R2, ev, q⟩
  | false =>
    rw [if_neg (by decide)]
    refine wpAny_passesOwn K.passes (wpAny_mono (q2 rfl s₁ R1) (fun f s₂ ⟨y, σ₂, h2, R2, e2, q⟩ => ?_) fun _ _ x => x)
    exact ⟨y, σ₂, h2, R2, (e0.trans e1).trans e2, q⟩

/-! for -/
noncomputable def Hp.del (H : Hp) (a : Addr) : Hp := fun b => if b = a then none else H b

theorem notFrame {s : Shared} (R : RelH c σ.H s) {a : Addr} {ob : Obj} (h : s.heap.get? a = some ob) (hd : ∀ es n, ob.data ≠ .dict es n) : a ∉ c.frames := fun hm => by
  rcases List.mem_cons.mp hm with q | q
  · obtain ⟨m, o2, es, ep, z1, z2, _⟩ := R.cur
    rw [← q, h] at z1; cases z1; exact hd _ _ z2
  · obtain ⟨p, hp, q⟩ := List.mem_map.mp q
    obtain ⟨o2, es, ep, z1, z2, _⟩ := R.outs p hp
    rw [q, h] at z1; cases z1; exact hd _ _ z2

/-- a tracked object that is no inst changes by itself -/
theorem Rel.self {s : Shared} {h' : Heap} {t : Nat} (R : Rel c σ s) {a : Addr} {o o' : O} (hH : σ.H a = some o) (hno : ∀ C fs, o ≠ .inst C fs) (hno' : ∀ C fs, o' ≠ .inst C fs) (hs : Heap.SameBut a s.heap h')
    (hnew : Evo s.heap h' → OR c.base c.frames h' a o') : Rel c ⟨σ.loc, σ.H.upd a o'⟩ { s with heap := h', toks := t } ∧ Evo s.heap h' := by
  obtain ⟨ob, h1, h2, h3⟩ := (R.objs a _ hH).exists
  refine R.changeAt a a o' h1 (R.new a _ hH) (notFrame R.toRelH h1 h2) h3 (fun x o hx e => (hs.2 x hx).trans e) hnew (R.new a _ hH)
    (fun b o hb e => ⟨hb, fun ob2 d k1 k2 ⟨C, fs, ho⟩ hd => ?_⟩) (fun C fs e => absurd e (hno' C fs))
  subst ho
  obtain ⟨o3, d', m, y1, y2, y3, y4, y5, y6, y7, _⟩ := R.objs b _ e
  rw [y1] at k1; cases k1; rw [y4] at k2; cases k2
  obtain ⟨o4, es, ep, z1, z2, _⟩ := y7
  rw [hd, h1] at z1; cases z1; exact h2 _ _ z2

/-- one tracked object, no inst, is let go -/
theorem Rel.forget {s : Shared} {h' : Heap} {t : Nat} (R : Rel c σ s) {a : Addr} {o : O} (hH : σ.H a = some o) (hno : ∀ C fs, o ≠ .inst C fs) (hs : Heap.ExtBut a s.heap h') :
    Rel c ⟨σ.loc, σ.H.del a⟩ { s with heap := h', toks := t } ∧ Evo s.heap h' := by
  obtain ⟨ob, h1, h2, h3⟩ := (R.objs a _ hH).exists
  have hF := notFrame R.toRelH h1 h2
  have ev : Evo s.heap h' := evo_change (b := a) (fun x o hx e => hs x o hx e) h1 h3
  have hin : ∀ b o, (σ.H.del a) b = some o → b ≠ a ∧ σ.H b = some o := fun b o e => by
    unfold Hp.del at e
    split at e
    · cases e
    · rename_i q; exact ⟨q, e⟩
  have hdict : ∀ b C fs, σ.H b = some (.inst C fs) → ∀ ob d, s.heap.get? b = some ob → ob.dict = some d → d ≠ a := fun b C fs e ob2 d k1 k2 hd => by
    obtain ⟨o3, d', m, y1, y2, y3, y4, y5, y6, y7, _⟩ := R.objs b _ e
    rw [y1] at k1; cases k1; rw [y4] at k2; cases k2
    obtain ⟨o4, es, ep, z1, z2, _⟩ := y7
    rw [hd, h1] at z1; cases z1; exact h2 _ _ z2
  obtain ⟨m, hm, hl⟩ := R.locs
  refine ⟨{ keep := fun b o e => hs b o ?_ (R.keep b o e), outs := fun p hp => (R.outs p hp).extBut hs ?_, cur := ⟨m, hm.extBut hs ?_⟩, new := fun b o e => R.new b o (hin b o e).2, objs := fun b o e => ?_, dinj := ?_, evo0 := R.evo0.trans ev, gens := R.gens, os := R.os, locs := ⟨m, hm.extBut hs ?_, hl.evo ev⟩ }, ev⟩
  · rintro rfl; rw [R.new _ _ hH] at e; cases e
  · rintro rfl; exact hF (List.mem_cons_of_mem _ (List.mem_map_of_mem (f := fun p : Env × (Str → Option Value) => p.1.locals) hp))
  · rintro rfl; exact hF List.mem_cons_self
  · obtain ⟨n1, e'⟩ := hin b o e
    exact (R.objs b o e').change ev (fun x o hx e => hs x o hx e) n1 (fun ob2 d k1 k2 ⟨C, fs, ho⟩ => hdict b C fs (ho ▸ e') ob2 d k1 k2)
  · intro b b' C fs C' fs' o1 o2 d e1 e2 g1 g2 d1 d2
    obtain ⟨n1, e1'⟩ := hin b _ e1
    obtain ⟨n2, e2'⟩ := hin b' _ e2
    obtain ⟨p1, _, _, y1, _⟩ := R.objs b _ e1'
    obtain ⟨p2, _, _, y2, _⟩ := R.objs b' _ e2'
    have z1 := hs b _ n1 y1
    have z2 := hs b' _ n2 y2
    simp only at g1 g2
    rw [z1] at g1; cases g1
    rw [z2] at g2; cases g2
    exact R.dinj b b' C fs C' fs' _ _ d e1' e2' y1 y2 d1 d2
  · rintro rfl; exact hF List.mem_cons_self

noncomputable def foK (J : St → Prop) (Q : Fl → St → Prop) : Fl → St → Prop
  | .next, σ => J σ
  | .cont, σ => J σ
  | .brk, σ => Q .next σ
  | .ret v, σ => Q (.ret v) σ

theorem W.forList (K : c.Ok) (hh : c.A.handled = none) {n : N} {p pos : Pos} {iter : PySem.Expr} {body : List Stmt} {Q : Fl → St → Prop} (hk : c.env.kindOf (nm n) = some .local)
    (h : WV c iter σ fun x σ₁ => ∃ a vs, ∃ I : Addr → Nat → St → Prop, x = .ref a ∧ σ₁.H a = some (.list vs) ∧ (∀ it, σ₁.H it = none → I it 0 ⟨σ₁.loc, σ₁.H.upd it (.liter a 0)⟩) ∧
      (∀ it i v σ₂, vs[i]? = some v → I it i σ₂ → σ₂.H it = some (.liter a i) ∧ σ₂.H a = some (.list vs) ∧
        WSs c body ⟨(n, v) :: σ₂.loc, σ₂.H.upd it (.liter a (i + 1))⟩ (foK (I it (i + 1)) Q)) ∧
      (∀ it σ₂, I it vs.length σ₂ → σ₂.H it = some (.liter a vs.length) ∧ σ₂.H a = some (.list vs) ∧ Q .next ⟨σ₂.loc, σ₂.H.del it⟩))
    (hs : ∀ x, foldedSetIterable iter c.env x = pure x := by intro _; with_unfolding_all rfl) : WS c (.For (.Name (nm n) p) iter body [] pos) σ Q := fun s R => by
  refine wpAny_For (wpAny_mono (h s R) (fun u s₁ ⟨x, σ₁, h1, R1, e1, a, vs, I, ex, hH, h0, hstep, hfin⟩ => ?_) fun _ _ x => x) hs
  subst ex; cases h1
  obtain ⟨xs, hL, hr⟩ := (R1.objs a _ hH).isList
  refine wpAny_pyIter_list hL ?_
  have hnone : s₁.heap.get? s₁.heap.objs.size = none := by
    cases q : s₁.heap.get? s₁.heap.objs.size with
    | none => rfl
    | some o => exact absurd (Heap.lt_size q) (Nat.lt_irrefl _)
  obtain ⟨R2, e2, hn⟩ := R1.alloc (h' := s₁.heap.push { cls := .type "list_iterator", data := .fields #[.ref a, .int 0 0] }) (t := s₁.toks) s₁.heap.objs.size (.liter a 0) (fun _ _ e => Heap.get?_push_of_some _ e) hnone
    ⟨_, Heap.get?_push_size _ rfl, rfl, rfl⟩ (fun ob d k1 k2 => by rw [Heap.get?_push_size _ rfl] at k1; cases k1; cases k2)
  generalize s₁.heap.objs.size = it at *
  refine codeAny_forLoop (fun m s' => ∃ i σ', m = vs.length + 1 - i ∧ i ≤ vs.length ∧ I it i σ' ∧ Rel c σ' s' ∧ Evo s.heap s'.heap) ?_ (vs.length + 1) ⟨0, _, rfl, Nat.zero_le _, h0 it hn, R2, e1.trans e2⟩
  rintro m s₂ ⟨i, σ₂, rfl, hi, hI, R3, e3⟩
  cases hv : vs[i]? with
  | none =>
    have hsz : i = vs.length := Nat.le_antisymm hi (by simpa using hv)
    subst hsz
    obtain ⟨g1, g2, g3⟩ := hfin it σ₂ hI
    obtain ⟨ys, hL', hr'⟩ := (R3.objs a _ g2).isList
    refine wpAny_pyNext_list_end hh (R3.objs it _ g1) hL' (by have := hr'.length; simp; omega) fun h' hx => wpAny_execs_nil ?_
    obtain ⟨R4, e4⟩ := R3.forget (h' := h') (t := s₂.toks) g1 (fun C fs e => by cases e) hx
    exact ⟨.next, _, rfl, R4, e3.trans e4, g3⟩
  | some v =>
    have hlt : i < vs.length := (List.getElem?_eq_some_iff.mp hv).1
    obtain ⟨g1, g2, g3⟩ := hstep it i v σ₂ hv hI
    obtain ⟨ys, hL', hr'⟩ := (R3.objs a _ g2).isList
    obtain ⟨y, hy, hry⟩ := hr'.get hv
    refine wpAny_pyNext_list_item (R3.objs it _ g1) hL' (x := y) (by simpa using hy) fun h' hx hsb => ?_
    obtain ⟨R4, e4⟩ := R3.self (h' := h') (t := s₂.toks) g1 (fun C fs e => by cases e) (o' := .liter a (i + 1)) (fun C fs e => by cases e) hsb fun _ => hx
    refine wpAny_assign_Name (wpAny_passesOwn K.passes (storeL K hk R4 (hry.evo e4) fun s₃ R5 e5 => ?_))
    refine wpAny_passesOwn K.passes (wpAny_mono (g3 s₃ R5) (fun f s₄ ⟨fl, σ₄, h4, R6, e6, q⟩ => ?_) fun _ _ x => x)
    have ev := ((e3.trans e4).trans e5).trans e6
    cases fl with
    | next => cases h4; exact ⟨vs.length + 1 - (i + 1), by omega, i + 1, σ₄, rfl, hlt, q, R6, ev⟩
    | cont => cases h4; exact ⟨vs.length + 1 - (i + 1), by omega, i + 1, σ₄, rfl, hlt, q, R6, ev⟩
    | brk => cases h4; exact ⟨.next, σ₄, rfl, R6, ev, q⟩
    | ret v => obtain ⟨u, rfl, hu⟩ := h4; exact ⟨.ret v, σ₄, ⟨u, rfl, hu⟩, R6, ev, q⟩

theorem W.forRange (K : c.Ok) (hh : c.A.handled = none) {n : N} {p pos : Pos} {iter : PySem.Expr} {body : List Stmt} {Q : Fl → St → Prop} (hk : c.env.kindOf (nm n) = some .local)
    (h : WV c iter σ fun x σ₁ => ∃ a, ∃ k : Nat, ∃ I : Addr → Nat → St → Prop, x = .ref a ∧ σ₁.H a = some (.range k) ∧ k < 1000000 ∧ (∀ it, σ₁.H it = none → I it 0 ⟨σ₁.loc, σ₁.H.upd it (.riter 0 k)⟩) ∧
      (∀ it i σ₂, i < k → I it i σ₂ → σ₂.H it = some (.riter i (k - i)) ∧
        WSs c body ⟨(n, .int i) :: σ₂.loc, σ₂.H.upd it (.riter (i + 1) (k - i - 1))⟩ (foK (I it (i + 1)) Q)) ∧
      (∀ it σ₂, I it k σ₂ → σ₂.H it = some (.riter k 0) ∧ Q .next ⟨σ₂.loc, σ₂.H.del it⟩))
    (hs : ∀ x, foldedSetIterable iter c.env x = pure x := by intro _; with_unfolding_all rfl) : WS c (.For (.Name (nm n) p) iter body [] pos) σ Q := fun s R => by
  refine wpAny_For (wpAny_mono (h s R) (fun u s₁ ⟨x, σ₁, h1, R1, e1, a, k, I, ex, hH, hk6, h0, hstep, hfin⟩ => ?_) fun _ _ x => x) hs
  subst ex; cases h1
  obtain ⟨t1, t2, t3, hr⟩ := R1.objs a _ hH
  refine wpAny_pyIter_range hr (small_one (by omega) (by omega) (by omega) (by omega)) ?_
  have hsize : Builtin.Range.rangeSize 0 (k : Int) 1 = (k : Int) := by rw [rangeSize_one]; split <;> omega
  rw [hsize]
  have hnone : s₁.heap.get? s₁.heap.objs.size = none := by
    cases q : s₁.heap.get? s₁.heap.objs.size with
    | none => rfl
    | some o => exact absurd (Heap.lt_size q) (Nat.lt_irrefl _)
  obtain ⟨R2, e2, hn⟩ := R1.alloc (h' := s₁.heap.push { cls := .type "range_iterator", data := .fields #[rawInt 0, rawInt k, rawInt 1] }) (t := s₁.toks) s₁.heap.objs.size (.riter 0 k) (fun _ _ e => Heap.get?_push_of_some _ e) hnone
    (Heap.get?_push_size _ rfl) (fun ob d k1 k2 => by rw [Heap.get?_push_size _ rfl] at k1; cases k1; cases k2)
  generalize s₁.heap.objs.size = it at *
  refine codeAny_forLoop (fun m s' => ∃ i σ', m = k + 1 - i ∧ i ≤ k ∧ I it i σ' ∧ Rel c σ' s' ∧ Evo s.heap s'.heap) ?_ (k + 1) ⟨0, _, rfl, Nat.zero_le _, h0 it hn, R2, e1.trans e2⟩
  rintro m s₂ ⟨i, σ₂, rfl, hi, hI, R3, e3⟩
  by_cases hv : i < k
  · obtain ⟨g1, g3⟩ := hstep it i σ₂ hv hI
    refine wpAny_pyNext_range_item (R3.objs it _ g1) (by omega) fun h' hx hsb => ?_
    obtain ⟨R4, e4⟩ := R3.self (h' := h') (t := s₂.toks + 1) g1 (fun C fs e => by cases e) (o' := .riter (i + 1) (k - i - 1)) (fun C fs e => by cases e) hsb fun _ => hx
    refine wpAny_assign_Name (wpAny_passesOwn K.passes (storeL K hk R4 (v := .int i) ⟨_, rfl⟩ fun s₃ R5 e5 => ?_))
    refine wpAny_passesOwn K.passes (wpAny_mono (g3 s₃ R5) (fun f s₄ ⟨fl, σ₄, h4, R6, e6, q⟩ => ?_) fun _ _ x => x)
    have ev := ((e3.trans e4).trans e5).trans e6
    cases fl with
    | next => cases h4; exact ⟨k + 1 - (i + 1), by omega, i + 1, σ₄, rfl, hv, q, R6, ev⟩
    | cont => cases h4; exact ⟨k + 1 - (i + 1), by omega, i + 1, σ₄, rfl, hv, q, R6, ev⟩
    | brk => cases h4; exact ⟨.next, σ₄, rfl, R6, ev, q⟩
    | ret v => obtain ⟨u, rfl, hu⟩ := h4; exact ⟨.ret v, σ₄, ⟨u, rfl, hu⟩, R6, ev, q⟩
  · have hsz : i = k := by omega
    subst hsz
    obtain ⟨g1, g3⟩ := hfin it σ₂ hI
    refine wpAny_pyNext_range_end hh (R3.objs it _ g1) (by omega) fun h' hx => wpAny_execs_nil ?_
    obtain ⟨R4, e4⟩ := R3.forget (h' := h') (t := s₂.toks) g1 (fun C fs e => by cases e) hx
    exact ⟨.next, _, rfl, R4, e3.trans e4, g3⟩

/-! an item of a list is stored -/
theorem OR.plainL {base : Heap} {F : List Addr} {h : Heap} {a : Addr} {vs : List V} (r : OR base F h a (.list vs)) : ∃ xs, PlainL h a xs.toArray ∧ VRs h vs xs :=
  let ⟨o, xs, n, h1, h2, h3, hdn, h4⟩ := r; ⟨xs, ⟨o, n, h1, h2, hdn, h3⟩, h4⟩
theorem PlainL.or {base : Heap} {F : List Addr} {h : Heap} {a : Addr} {vs : List V} {xs : List Value} {ys : Array Value} (r : PlainL h a ys) (e : ys = xs.toArray) (hr : VRs h vs xs) : OR base F h a (.list vs) := by
  subst e; obtain ⟨o, n, h1, h2, hdn, h3⟩ := r; exact ⟨o, xs, n, h1, h2, h3, hdn, hr⟩
theorem setItem_plain {prog : Program} {w : World} {A : Around} {E : Value → Shared → Prop} {s : Shared} {l : Addr} {items : Array Value} {k : Int} {t : Tok} {v : Value} {Q : Unit → Shared → Prop} (hl : PlainL s.heap l items)
    (h0 : 0 ≤ k) (hfit : k < 2 ^ 63) (hn : k < items.size)
    (hQ : ∀ h', PlainL h' l (items.setIfInBounds k.toNat v) → Heap.SameBut l s.heap h' → Q () { s with heap := h' }) :
    wpAny (model prog w) A (setItem (.ref l) (.int k t) v) Q E s := by
  obtain ⟨o, ne, ho, hc, hdn, hd⟩ := id hl
  have hl' := hl.isList
  unfold setItem
  try with_reducible refine wpAny_holding ?_
  first | refine wpAny_bind (wpAny_pure ?_) | skip
  refine wpAny_bind (wpAny_sequenceKey hl'.typeIs (by decide) ?_)
  refine wpAny_bind (wpAny_callSpecial?_slot (name := Str.ofString "__setitem__") hl'.typeIs slot_list_setitem
    (wpAny_call_entry slot_list_setitem hl'.typeIs entry_list_setitem ?_ (args_list_setitem _ _ _)))
  show wpAny _ _ (Builtin.List.listSubscript? (.int k t) >>= _) _ _ s
  refine wpAny_bind (wpAny_listSubscript_int (fitsIndex_of h0 hfit) ?_)
  clear hfit
  obtain ⟨j, rfl⟩ := Int.eq_ofNat_of_zero_le h0
  have hj : j < items.size := by omega
  have hx' : items[j]? = some items[j] := Array.getElem?_eq_getElem hj
  show wpAny _ _ ((seqItemAt l j >>= fun r => pure (r.map (j, ·))) >>= _) _ _ s
  refine wpAny_bind (wpAny_bind (wpAny_seqItemAt ho hd (wpAny_pure ?_)))
  rw [hx']
  show wpAny _ _ (setSeqItemAt l j v >>= _) _ _ s
  obtain ⟨n', hd'⟩ := Obj.data_mapSeq hd (·.setIfInBounds j v)
  have hfin : PlainL (s.heap.update l (Obj.mapSeq (·.setIfInBounds j v))) l (items.setIfInBounds j v) := by
    refine ⟨_, n', Heap.get?_update_self _ ho (Obj.isFreed_of_seq hd'), (Obj.cls_mapSeq ..).trans hc, ?_, hd'⟩
    obtain ⟨c, d, dt, sl⟩ := o
    subst hd
    exact hdn
  refine wpAny_bind (wpAny_setSeqItemAt ho hd ?_)
  first
    | exact wpAny_bind (wpAny_pure (wpAny_pure ⟨.none, rfl, wpAny_pure (hQ _ hfin (Heap.SameBut.update ..))⟩))
    | exact wpAny_pure ⟨.none, rfl, wpAny_pure (hQ _ hfin (Heap.SameBut.update ..))⟩
theorem W.assignItem (K : c.Ok) {o i : PySem.Expr} {p pos : Pos} {e : PySem.Expr} {Q : Fl → St → Prop}
    (h : WV c e σ fun v σ₁ => WV c o σ₁ fun x σ₂ => WV c i σ₂ fun y σ₃ => ∃ a vs k, x = .ref a ∧ σ₃.H a = some (.list vs) ∧ y = .int k ∧ 0 ≤ k ∧ k < vs.length ∧ k < 2 ^ 60 ∧ Q .next ⟨σ₃.loc, σ₃.H.upd a (.list (vs.set k.toNat v))⟩)
    (hs : swapsWith e (some (.Subscript o i p)) pos.line c.env = pure false := by rfl) : WS c (.Assign [.Subscript o i p] e pos) σ Q := fun s R => by
  refine wpAny_Assign_Subscript (wpAny_mono (h s R) (fun u s₁ ⟨v, σ₁, h1, R1, e1, q1⟩ => ?_) fun _ _ x => x) hs
  refine wpAny_mono (q1 s₁ R1) (fun u2 s₂ ⟨x, σ₂, h2, R2, e2, q2⟩ => ?_) fun _ _ x => x
  refine wpAny_mono (q2 s₂ R2) (fun u3 s₃ ⟨y, σ₃, h3, R3, e3, a, vs, k, ex, hH, ey, h0, hk, hk6, q3⟩ => ?_) fun _ _ x => x
  subst ex ey; cases h2
  obtain ⟨t, rfl⟩ := h3
  obtain ⟨xs, hL, hr⟩ := (R3.objs a _ hH).plainL
  refine setItem_plain hL h0 (by omega) (by rw [List.size_toArray, hr.length]; exact hk) fun h' hL' hsb => ?_
  obtain ⟨R4, e4⟩ := R3.self (h' := h') (t := s₃.toks) hH (fun C fs e => by cases e) (o' := .list (vs.set k.toNat v)) (fun C fs e => by cases e) hsb fun ev =>
    PlainL.or hL' (xs := xs.set k.toNat u) (by simp) ((hr.evo ev).set (((h1.evo e2).evo e3).evo ev))
  exact ⟨.next, _, rfl, R4, ((e1.trans e2).trans e3).trans e4, q3⟩

end Mine

end
section
open PySem PySem.W PySem.Calls PyProof.Rows
set_option maxRecDepth 100000
set_option linter.all false
namespace Mine
variable {c : Cx} {σ : St}

/-! an exception leaves a frame -/
theorem note_first {M : Model} {A : Around} {E : Value → Shared → Prop} {s : Shared} {base : Heap} {env : Env} {outer : List Env} {L e : Addr} {oe : Obj} {vs : Array Value} {Q : Unit → Shared → Prop}
    (hfr : A.frames = some (env :: outer)) (hl : s.heap.FunFrames base (env :: outer)) (hf : env.frame = some L)
    (he : s.heap.get? e = some oe) (hkb : base.StaysIn s.heap) (hen : base.get? e = none) (hd : oe.data = .fields vs) (h1 : vs[1]? = some .none)
    (h : ∀ h', Heap.Left base (env :: outer) e oe.cls s.heap h' → Q () { s with heap := h' }) : wpAny M A (noteFrame (.ref e) env) (fun _ s' => wpAny M A (setFlight (.ref e) none) Q E s') E s := by
  unfold noteFrame
  simp only [hf]
  refine wpAny_bind (wpAny_field he hd h1 ?_)
  rw [if_neg (by decide)]
  exact wpAny_newEntry hfr hl hf he hkb hen hd (Array.getElem?_eq_some_iff.mp h1).1 h
theorem note_next {M : Model} {A : Around} {E : Value → Shared → Prop} {s : Shared} {base : Heap} {env : Env} {outer : List Env} {L e : Addr} {cls : Value} {Q : Unit → Shared → Prop}
    (hfr : A.frames = some (env :: outer)) (hl : s.heap.FunFrames base (env :: outer)) (hf : env.frame = some L) (ht : s.heap.Traced base e cls) (hkb : base.StaysIn s.heap) (hen : base.get? e = none)
    (h : ∀ h', Heap.Left base (env :: outer) e cls s.heap h' → Q () { s with heap := h' }) : wpAny M A (noteFrame (.ref e) env) (fun _ s' => wpAny M A (setFlight (.ref e) none) Q E s') E s := by
  obtain ⟨oe, vs, T, oT, ts, he, hcls, hd, h1, hnT, hTe, hT, hdT, h3⟩ := ht
  subst hcls
  unfold noteFrame
  simp only [hf]
  refine wpAny_bind (wpAny_field he hd h1 ?_)
  rw [if_pos (show (Value.ref T != Value.none) = true from by simp)]
  refine wpAny_bind (wpAny_field hT hdT h3 ?_)
  rw [if_neg (show ¬ ((Value.none == rawInt L) = true) from by simp [rawInt])]
  refine wpAny_bind (wpAny_setField hT hdT (Array.getElem?_eq_some_iff.mp h3).1 ?_)
  have other : ∀ b, b ≠ T → (s.heap.update T (Obj.mapFields (·.setIfInBounds 3 Value.none))).get? b = s.heap.get? b := fun b hb => Heap.get?_update_other _ _ (Ne.symm hb)
  have noRecord : ∀ b o, s.heap.get? b = some o → (∀ vs, o.data ≠ .fields vs) → b ≠ T := fun b o hb hnf q => by
    rw [q, hT] at hb; injection hb with hb; subst hb; exact hnf ts hdT
  refine wpAny_newEntry hfr (hl.of_keeps fun b o hb hnf => ⟨o, (other b (noRecord b o hb hnf)).trans hb, rfl⟩) hf ((other e (Ne.symm hTe)).trans he)
    (fun b o hbo => (other b fun q => by rw [q, hnT] at hbo; cases hbo).trans (hkb b o hbo)) hen hd (Array.getElem?_eq_some_iff.mp h1).1
    fun h' ⟨x1, x2, x3, x4⟩ => h h' ⟨x1, x2, x3, fun b o hb hnf => x4 b o ((other b (noRecord b o hb hnf)).trans hb) hnf⟩
theorem note_ok {M : Model} {A : Around} {E : Value → Shared → Prop} {s : Shared} {Q : Unit → Shared → Prop} {base : Heap} {env : Env} {outer : List Env} {e C : Addr} {H : Hp}
    (hfr : A.frames = some (env :: outer))
    (hfs : ∀ x ∈ env :: outer, x.scope.kind ≠ .module ∧ x.frame = some x.locals ∧ base.get? x.locals = none ∧ H x.locals = none ∧ ∃ o, s.heap.get? x.locals = some o ∧ ∀ vs, o.data ≠ .fields vs)
    (hk : base.StaysIn s.heap) (hH : ∀ a o, H a = some o → ∃ ob, s.heap.get? a = some ob) (hx : ExAt base H e C s.heap)
    (h : ∀ h', base.StaysIn h' → ExAt base H e C h' → (∀ b ob, s.heap.get? b = some ob → (∀ x ∈ env :: outer, b ≠ x.locals) → ((∀ vs, ob.data ≠ .fields vs) ∨ H b ≠ none ∨ base.get? b ≠ none) → h'.get? b = some ob) →
      (∀ b m, s.heap.Ns b m → h'.Ns b m) → Q () { s with heap := h' }) : wpAny M A (noteFrame (.ref e) env) (fun _ s' => wpAny M A (setFlight (.ref e) none) Q E s') E s := by
  obtain ⟨oe, vs, he, hcls, hd, hbe, hHe, hst⟩ := hx
  -- what may change
  have key : ∀ (bad : List Addr), (∀ x ∈ env :: outer, x.locals ∈ bad) → e ∈ bad → (∀ b ∈ bad, base.get? b = none ∧ H b = none ∧ ((∃ x ∈ env :: outer, b = x.locals) ∨ ∃ ob ws, s.heap.get? b = some ob ∧ ob.data = .fields ws)) →
      ∀ h', Heap.Left (hideAll s.heap bad) (env :: outer) e oe.cls s.heap h' → Q () { s with heap := h' } := by
    intro bad hb1 hb2 hb3 h' hL
    obtain ⟨k1, k2, k3, k4⟩ := hL
    have stay : ∀ b ob, s.heap.get? b = some ob → b ∉ bad → h'.get? b = some ob := fun b ob g n => k1 b ob (hideAll_get bad g n)
    refine h h' (fun b o g => stay b o (hk b o g) fun n => by rw [(hb3 b n).1] at g; cases g) ?_ (fun b ob g n1 n2 => stay b ob g fun n => ?_) ?_
    · obtain ⟨oe', vs', T, oT, ts, g1, g2, g3, g4, g5, g6, g7, g8, g9⟩ := k3
      have notIn : ∀ ob, s.heap.get? T = some ob → T ∈ bad := fun ob g => by
        refine Classical.byContradiction fun n => ?_
        rw [hideAll_get bad g n] at g5; cases g5
      have hbT : base.get? T = none ∧ H T = none := by
        cases q : s.heap.get? T with
        | some ob => exact ⟨(hb3 T (notIn ob q)).1, (hb3 T (notIn ob q)).2.1⟩
        | none =>
          refine ⟨?_, ?_⟩
          · cases z : base.get? T with
            | none => rfl
            | some o => have := hk T o z; rw [q] at this; cases this
          · cases z : H T with
            | none => rfl
            | some o => obtain ⟨ob, g⟩ := hH T o z; rw [q] at g; cases g
      exact ⟨oe', vs', g1, g2.trans hcls, g3, hbe, hHe, .inr ⟨T, oT, ts, g4, hbT.1, hbT.2, g6, g7, g8, g9⟩⟩
    · obtain ⟨q1, q2, q3⟩ := hb3 b n
      rcases q3 with ⟨x, hx, rfl⟩ | ⟨ob', ws, g', q4⟩
      · exact n1 x hx rfl
      · rw [g] at g'; cases g'
        rcases n2 with n2 | n2 | n2
        · exact n2 _ q4
        · exact n2 q2
        · exact n2 q1
    · rintro b m ⟨o, es, ep, g1, g2, g3, g4⟩
      obtain ⟨sl, g5⟩ := k4 b o g1 fun vs e => by rw [g2] at e; cases e
      exact ⟨_, es, ep, g5, g2, g3, g4⟩
  have hf : env.frame = some env.locals := (hfs env List.mem_cons_self).2.1
  have funf : ∀ bad : List Addr, (∀ x ∈ env :: outer, x.locals ∈ bad) → s.heap.FunFrames (hideAll s.heap bad) (env :: outer) := by
    intro bad hbad
    generalize hl : env :: outer = l at *
    clear hl key hf hfr h
    induction l with
    | nil => trivial
    | cons x r ih =>
      obtain ⟨p1, p2, p3, p4, o, p5, p6⟩ := hfs x List.mem_cons_self
      exact ⟨p1, ⟨x.locals, o, p2, hideAll_none _ (hbad x List.mem_cons_self), p5, p6⟩, ih (fun y hy => hfs y (List.mem_cons_of_mem _ hy)) fun y hy => hbad y (List.mem_cons_of_mem _ hy)⟩
  rcases hst with h1 | ⟨T, oT, ts, h1, hbT, hHT, hTe, hT, hdT, h3⟩
  · let bad := e :: (env :: outer).map (·.locals)
    have m1 : ∀ x ∈ env :: outer, x.locals ∈ bad := fun x hx => List.mem_cons_of_mem _ (List.mem_map_of_mem hx)
    refine note_first (base := hideAll s.heap bad) hfr (funf bad m1) hf he (fun b o g => of_hideAll _ g) (hideAll_none _ List.mem_cons_self) hd h1 (key bad m1 List.mem_cons_self fun b hb => ?_)
    rcases List.mem_cons.mp hb with rfl | hb
    · exact ⟨hbe, hHe, .inr ⟨oe, vs, he, hd⟩⟩
    · obtain ⟨x, hx, rfl⟩ := List.mem_map.mp hb
      exact ⟨(hfs x hx).2.2.1, (hfs x hx).2.2.2.1, .inl ⟨x, hx, rfl⟩⟩
  · let bad := e :: T :: (env :: outer).map (·.locals)
    have m1 : ∀ x ∈ env :: outer, x.locals ∈ bad := fun x hx => List.mem_cons_of_mem _ (List.mem_cons_of_mem _ (List.mem_map_of_mem hx))
    refine note_next (base := hideAll s.heap bad) (cls := oe.cls) hfr (funf bad m1) hf ⟨oe, vs, T, oT, ts, he, rfl, hd, h1, hideAll_none _ (List.mem_cons_of_mem _ List.mem_cons_self), hTe, hT, hdT, h3⟩
      (fun b o g => of_hideAll _ g) (hideAll_none _ List.mem_cons_self) (key bad m1 List.mem_cons_self fun b hb => ?_)
    rcases List.mem_cons.mp hb with rfl | hb
    · exact ⟨hbe, hHe, .inr ⟨oe, vs, he, hd⟩⟩
    rcases List.mem_cons.mp hb with rfl | hb
    · exact ⟨hbT, hHT, .inr ⟨oT, ts, hT, hdT⟩⟩
    · obtain ⟨x, hx, rfl⟩ := List.mem_map.mp hb
      exact ⟨(hfs x hx).2.2.1, (hfs x hx).2.2.2.1, .inl ⟨x, hx, rfl⟩⟩

theorem leaving_ok {M : Model} {A : Around} {E : Value → Shared → Prop} {s : Shared} {Q : Unit → Shared → Prop} {base : Heap} {env : Env} {outer : List Env} {e C : Addr} {H : Hp}
    (hfr : A.frames = some (env :: outer))
    (hfs : ∀ x ∈ env :: outer, x.scope.kind ≠ .module ∧ x.frame = some x.locals ∧ base.get? x.locals = none ∧ H x.locals = none ∧ ∃ o, s.heap.get? x.locals = some o ∧ ∀ vs, o.data ≠ .fields vs)
    (hk : base.StaysIn s.heap) (hH : ∀ a o, H a = some o → ∃ ob, s.heap.get? a = some ob) (hx : ExAt base H e C s.heap)
    (h : ∀ h', base.StaysIn h' → ExAt base H e C h' → (∀ b ob, s.heap.get? b = some ob → (∀ x ∈ env :: outer, b ≠ x.locals) → ((∀ vs, ob.data ≠ .fields vs) ∨ H b ≠ none ∨ base.get? b ≠ none) → h'.get? b = some ob) →
      (∀ b m, s.heap.Ns b m → h'.Ns b m) → Q () { s with heap := h' }) : wpAny M A (leaving env (.ref e)) Q E s := by
  unfold leaving
  exact wpAny_bind (note_ok hfr hfs hk hH hx h)

/-- frames: what leaving_ok asks -/
theorem frames_ok {s : Shared} {H : Hp} (hkind : c.env.scope.kind = .function) (hframe : c.env.frame = some c.env.locals) (F : c.Fine) (hout : ∀ p ∈ c.outer, p.1.scope.kind ≠ .module ∧ p.1.frame = some p.1.locals) (R : RelH c H s) :
    ∀ x ∈ c.env :: c.outer.map (·.1), x.scope.kind ≠ .module ∧ x.frame = some x.locals ∧ c.base.get? x.locals = none ∧ H x.locals = none ∧ ∃ o, s.heap.get? x.locals = some o ∧ ∀ vs, o.data ≠ .fields vs := by
  have noH : ∀ L o es n, s.heap.get? L = some o → o.data = .dict es n → H L = none := fun L o es n g d => by
    cases q : H L with
    | none => rfl
    | some ob => obtain ⟨o', g', d', _⟩ := (R.objs L ob q).exists; rw [g] at g'; cases g'; exact absurd d (d' _ _)
  intro x hx
  rcases List.mem_cons.mp hx with rfl | hx
  · obtain ⟨m, o, es, ep, g1, g2, _⟩ := R.cur
    exact ⟨by rw [hkind]; decide, hframe, F.newF _ List.mem_cons_self, noH _ _ _ _ g1 g2, o, g1, fun vs e => by rw [g2] at e; cases e⟩
  · obtain ⟨p, hp, rfl⟩ := List.mem_map.mp hx
    obtain ⟨o, es, ep, g1, g2, _⟩ := R.outs p hp
    exact ⟨(hout p hp).1, (hout p hp).2, F.newF _ (List.mem_cons_of_mem _ (List.mem_map_of_mem (f := fun p : Env × (Str → Option Value) => p.1.locals) hp)), noH _ _ _ _ g1 g2, o, g1, fun vs e => by rw [g2] at e; cases e⟩

/-- what an exception's passing changes leaves the relation -/
theorem RelH.passed {s : Shared} {H : Hp} {h' : Heap} {t : Nat} (R : RelH c H s) (hb : c.base.StaysIn h') (hn : ∀ b m, s.heap.Ns b m → h'.Ns b m)
    (hs : ∀ b ob, s.heap.get? b = some ob → (∀ L ∈ c.frames, b ≠ L) → ((∀ vs, ob.data ≠ .fields vs) ∨ H b ≠ none ∨ c.base.get? b ≠ none) → h'.get? b = some ob) :
    RelH c H { s with heap := h', toks := t } ∧ Evo s.heap h' := by
  have ev : Evo s.heap h' := by
    rintro a xs ⟨o, g1, g2, n, g3⟩
    refine ⟨o, hs a o g1 (fun L hL e => ?_) (.inl fun vs e => by rw [g3] at e; cases e), g2, n, g3⟩
    subst e
    rcases List.mem_cons.mp hL with q | q
    · obtain ⟨m, o2, es, ep, z1, z2, _⟩ := R.cur
      rw [← q, g1] at z1; cases z1; rw [g3] at z2; cases z2
    · obtain ⟨p, hp, q⟩ := List.mem_map.mp q
      obtain ⟨o2, es, ep, z1, z2, _⟩ := R.outs p hp
      rw [q, g1] at z1; cases z1; rw [g3] at z2; cases z2
  have at_ : ∀ a o ob, H a = some o → s.heap.get? a = some ob → h'.get? a = some ob := fun a o ob e g => by
    obtain ⟨ob', g', d', _⟩ := (R.objs a o e).exists
    rw [g] at g'; cases g'
    exact hs a ob g (fun L hL q => by subst q; exact notFrame (σ := ⟨[], H⟩) R g d' hL) (.inr (.inl (by rw [e]; exact fun x => by cases x)))
  refine ⟨{ keep := hb, outs := fun p hp => hn _ _ (R.outs p hp), cur := let ⟨m, hm⟩ := R.cur; ⟨m, hn _ _ hm⟩, new := R.new, objs := fun a o e => ?_, dinj := ?_, evo0 := R.evo0.trans ev, gens := R.gens, os := R.os }, ev⟩
  · have hO := R.objs a o e
    cases o with
    | inst C fs =>
      obtain ⟨o, d, m, h1, h2, h3, h4, h5, h6, h7, h8⟩ := hO
      refine ⟨o, d, m, at_ a _ o e h1, h2, h3, h4, h5, h6, h7.at (fun ob g => ?_), h8.evo ev⟩
      obtain ⟨od, es, ep, z1, z2, _⟩ := h7
      rw [z1] at g; cases g
      exact hs d ob z1 (fun L hL q => by subst q; exact h5 hL) (.inl fun vs q => by rw [z2] at q; cases q)
    | list vs =>
      obtain ⟨o, xs, n, h1, h2, h3, hdn, h4⟩ := hO
      exact ⟨o, xs, n, at_ a _ o e h1, h2, h3, hdn, h4.evo ev⟩
    | cell v =>
      obtain ⟨o, h1, h3⟩ := hO
      refine ⟨o, at_ a _ o e h1, ?_⟩
      cases v with
      | none => exact h3
      | some v => obtain ⟨u, g, q⟩ := h3; exact ⟨u, g, q.evo ev⟩
    | liter l i => obtain ⟨o, h1, h3⟩ := hO; exact ⟨o, at_ a _ o e h1, h3⟩
    | riter x y => exact at_ a _ _ e hO
    | range n => obtain ⟨t, u, v, r⟩ := hO; exact ⟨t, u, v, at_ a _ _ e r⟩
  · intro a a' C fs C' fs' o o' d e1 e2 g1 g2 d1 d2
    obtain ⟨o1, h1, _⟩ := (R.objs a _ e1).exists
    obtain ⟨o2, h2, _⟩ := (R.objs a' _ e2).exists
    have z1 := at_ a _ _ e1 h1
    have z2 := at_ a' _ _ e2 h2
    simp only at g1 g2
    rw [z1] at g1; cases g1
    rw [z2] at g2; cases g2
    exact R.dinj a a' C fs C' fs' _ _ d e1 e2 h1 h2 d1 d2

/-! calls -/
noncomputable def CallV (c : Cx) (f : V) (vs : List V) (kn : List Str) (kv : List V) (σ : St) (Q : V → St → Prop) : Prop :=
  ∀ s fu us ku, Rel c σ s → VR s.heap f fu → VRs s.heap vs us → VRs s.heap kv ku →
    wpAny (model c.prog c.w) c.A (call fu us (kn.zip ku)) (fun r s' => ∃ z σ', VR s'.heap z r ∧ Rel c σ' s' ∧ Evo s.heap s'.heap ∧ Q z σ') c.E s

noncomputable abbrev WK (c : Cx) (kws : List Keyword) (pos : Pos) (σ : St) (Q : List V → St → Prop) : Prop := W c VRs (evalAll ((backToKw pos (keywordEach kws c.env)).map (·.2))) σ Q
theorem W.knil {pos : Pos} {Q : List V → St → Prop} (h : Q [] σ) : WK c [] pos σ Q := fun s R => wpAny_evalAll_nil ⟨[], σ, rfl, R, .refl _, h⟩
theorem W.kcons {n : Option Str} {e : PySem.Expr} {p pos : Pos} {rest : List Keyword} {Q : List V → St → Prop} (h : WV c e σ fun v σ₁ => WK c rest pos σ₁ fun vs σ₂ => Q (v :: vs) σ₂) : WK c (⟨n, e, p⟩ :: rest) pos σ Q := fun s R => by
  refine wpAny_evalAll_cons (x := do let v ← eval e c.env; standAt pos; pure v) (rest := (backToKw pos (keywordEach rest c.env)).map (·.2)) ?_
  refine wpAny_bind (wpAny_mono (h s R) (fun u s₁ ⟨v, σ₁, h1, R1, e1, q1⟩ => wpAny_bind (wpAny_standAt (wpAny_pure ?_))) fun _ _ x => x)
  exact wpAny_mono (q1 s₁ R1) (fun us s₂ ⟨vs, σ₂, h2, R2, e2, q2⟩ => ⟨v :: vs, σ₂, ⟨_, _, rfl, h1.evo e2, h2⟩, R2, e1.trans e2, q2⟩) fun _ _ x => x

noncomputable def callOk (f : V) : Bool := match f with
  | .bi _ => true
  | .ty _ => true
  | .ref a => CALLEES.contains a
  | _ => false
theorem keeps_V (K : c.Ok) {f : V} {u : Value} {h₀ : Heap} (hf : VR h₀ f u) (ok : callOk f = true) (h : Heap) (X : c.K.In h) : ∃ k, (k = Keeper.frame ∨ k = Keeper.machine ∨ k = Keeper.boundFrame) ∧ Looks (model c.prog c.w) h (keeperOf u) k := by
  cases f <;> first | cases ok | skip
  · cases hf
    exact keeps_K (List.all_eq_true.mp K.cal _ (List.contains_iff_mem.mp ok)) h X
  · cases hf; exact ⟨.machine, .inr (.inl rfl), Looks.of_pure rfl⟩
  · cases hf; exact ⟨.machine, .inr (.inl rfl), Looks.of_pure rfl⟩

theorem evalArgs_any {M : Model} {A : Around} {E : Value → Shared → Prop} {s : Shared} {f : Value} {args : List (Bool × Sem Value)} {kws : List (Option Str × Sem Value)} {Q : Args → Shared → Prop}
    (hp : args.any (·.1) = false) (hk : kws.all (·.1.isSome) = true)
    (h : wpAny M A (spliced args) (fun vs s₁ => wpAny M A (evalAll (kws.map (·.2))) (fun ks s₂ => Q ⟨vs, (kws.filterMap (·.1)).zip ks⟩ s₂) E s₁) E s) : wpAny M A (evalArgs f true args kws) Q E s := by
  cases args with
  | nil => exact evalArgs_kw_nil hk fun Γ p hΓ => (show wpAny M A (evalAll (kws.map (·.2))) (fun ks s₂ => Q ⟨[], (kws.filterMap (·.1)).zip ks⟩ s₂) E s from h Γ p hΓ) Γ p hΓ
  | cons a r =>
    obtain ⟨b, x⟩ := a
    simp only [List.any_cons, Bool.or_eq_false_iff] at hp
    obtain ⟨rfl, hp⟩ := hp
    exact evalArgs_kw hk h

theorem W.callN (K : c.Ok) {n : N} {np pos : Pos} {args : List PySem.Expr} {kws : List Keyword} {Q : V → St → Prop}
    (h : WV c (.Name (nm n) np) σ fun f σ₁ => callOk f = true ∧ WA c args pos σ₁ fun vs σ₂ => WK c kws pos σ₂ fun kv σ₃ => CallV c f vs (kws.filterMap (·.arg)) kv σ₃ Q)
    (hp : (backTo pos (starEach args c.env)).any (·.1) = false := by with_unfolding_all rfl) (hk : (backToKw pos (keywordEach kws c.env)).all (·.1.isSome) = true := by with_unfolding_all rfl)
    (hn : (backToKw pos (keywordEach kws c.env)).filterMap (·.1) = kws.filterMap (·.arg) := by with_unfolding_all rfl) : WV c (.Call (.Name (nm n) np) args kws pos) σ Q := fun s R => by
  refine wpAny_Call_ofName (wpAny_mono (h s R) (fun u s₁ ⟨f, σ₁, h1, R1, e1, ok, q1⟩ => ?_) fun _ _ x => x)
  refine callWith_of (P := fun h => c.K.In h) (by rw [hp, Bool.false_or, List.any_eq_false]; intro x hx; have := List.all_eq_true.mp hk x hx; simp at this ⊢; cases hq : x.1 <;> simp_all) (keeps_V K h1 ok) ?_
  refine evalArgs_any hp hk (wpAny_mono (q1 s₁ R1) (fun us s₂ ⟨vs, σ₂, h2, R2, e2, q2⟩ => ?_) fun _ _ x => x)
  refine wpAny_mono (q2 s₂ R2) (fun ku s₃ ⟨kv, σ₃, h3, R3, e3, q3⟩ => ⟨K.kin.keeps R3.keep, ?_⟩) fun _ _ x => x
  rw [hn]
  exact wpAny_mono (q3 s₃ u us ku R3 ((h1.evo e2).evo e3) (h2.evo e3) h3) (fun r s₄ ⟨z, σ₄, h4, R4, e4, q4⟩ => ⟨z, σ₄, h4, R4, ((e1.trans e2).trans e3).trans e4, q4⟩) fun _ _ x => x

/-- a method is found -/
noncomputable def Meth (c : Cx) (σ : St) (x : V) (n : N) (f : V) : Prop := ∀ (s : Shared) (u : Value) (pl : Sem Bool) (Q : Value × List Value → Shared → Prop), Rel c σ s → VR s.heap x u →
  (∀ fu, VR s.heap f fu → Q (fu, [u]) s) → wpAny (model c.prog c.w) c.A (getMethod u (nm n) pl) Q c.E s
theorem meth_inst (K : c.Ok) {a C f : Addr} {fs : List (N × V)} {n : N} (hH : σ.H a = some (.inst C fs)) (hm : METH.contains ((C, n), f) = true) (hl : lk fs n = none) : Meth c σ (.ref a) n (.ref f) := fun s u pl Q R hv h => by
  cases hv
  have := List.all_eq_true.mp K.meth _ (List.contains_iff_mem.mp hm)
  simp only [Bool.and_eq_true, beq_iff_eq] at this
  exact getMethod_inst (K.kin.keeps R.keep) (R.objs a _ hH) this.1.1 this.1.2 this.2 hl (h _ rfl)

theorem W.callM (K : c.Ok) {o : PySem.Expr} {n : N} {apos pos : Pos} {args : List PySem.Expr} {kws : List Keyword} {Q : V → St → Prop}
    (h : WV c o σ fun x σ₁ => ∃ f, Meth c σ₁ x n f ∧ callOk f = true ∧ WA c args pos σ₁ fun vs σ₂ => WK c kws pos σ₂ fun kv σ₃ => CallV c f (x :: vs) (kws.filterMap (·.arg)) kv σ₃ Q)
    (hb : attributeBase o (nm n) c.env (eval o c.env) = eval o c.env := by with_unfolding_all rfl)
    (hfew : methodCallForm (args.length + kws.length) (backTo pos (starEach args c.env)) (backToKw pos (keywordEach kws c.env)) = true := by with_unfolding_all rfl)
    (hpos : methodCallPos (methodCallForm (args.length + kws.length) (backTo pos (starEach args c.env)) (backToKw pos (keywordEach kws c.env))) o c.env apos pos = pure pos := by with_unfolding_all rfl)
    (hp : (backTo pos (starEach args c.env)).any (·.1) = false := by with_unfolding_all rfl) (hk : (backToKw pos (keywordEach kws c.env)).all (·.1.isSome) = true := by with_unfolding_all rfl)
    (hn : (backToKw pos (keywordEach kws c.env)).filterMap (·.1) = kws.filterMap (·.arg) := by with_unfolding_all rfl) : WV c (.Call (.Attribute o (nm n) apos) args kws pos) σ Q := fun s R => by
  show wpAny _ _ (do
    let ov ← attributeBase o (nm n) c.env (eval o c.env)
    standAt apos.atName
    methodCall o (nm n) apos pos c.env ov (args.length + kws.length) (backTo pos (starEach args c.env)) (backToKw pos (keywordEach kws c.env))) _ _ _
  rw [hb]
  refine wpAny_bind (wpAny_mono (h s R) (fun u s₁ ⟨x, σ₁, h1, R1, e1, f, hm, ok, q1⟩ => wpAny_bind (wpAny_standAt ?_)) fun _ _ x => x)
  unfold methodCall
  rw [hpos, hfew]
  unfold calleeOf
  rw [if_pos rfl]
  refine wpAny_bind (wpAny_holding (hm s₁ u _ _ R1 h1 fun fu hfu => ?_))
  refine wpAny_bind (wpAny_pure ?_)
  refine callWith_of (P := fun h => c.K.In h) (by rw [hp, Bool.false_or, List.any_eq_false]; intro x hx; have := List.all_eq_true.mp hk x hx; simp at this ⊢; cases hq : x.1 <;> simp_all) (keeps_V K hfu ok) ?_
  refine evalArgs_any hp hk (wpAny_mono (q1 s₁ R1) (fun us s₂ ⟨vs, σ₂, h2, R2, e2, q2⟩ => ?_) fun _ _ x => x)
  refine wpAny_mono (q2 s₂ R2) (fun ku s₃ ⟨kv, σ₃, h3, R3, e3, q3⟩ => ⟨K.kin.keeps R3.keep, ?_⟩) fun _ _ x => x
  rw [hn]
  exact wpAny_mono (q3 s₃ fu (u :: us) ku R3 ((hfu.evo e2).evo e3) ⟨_, _, rfl, (h1.evo e2).evo e3, h2.evo e3⟩ h3) (fun r s₄ ⟨z, σ₄, h4, R4, e4, q4⟩ => ⟨z, σ₄, h4, R4, ((e1.trans e2).trans e3).trans e4, q4⟩) fun _ _ x => x

end Mine

end
section
open PySem PySem.W PySem.Calls PyProof.Rows
set_option maxRecDepth 100000
set_option linter.all false
namespace Mine
variable {c : Cx} {σ : St}

noncomputable def retK (loc : List (N × V)) (Q : V → St → Prop) : Fl → St → Prop
  | .ret v, σ => Q v ⟨loc, σ.H⟩
  | .next, σ => Q .none ⟨loc, σ.H⟩
  | .brk, σ => Q .none ⟨loc, σ.H⟩
  | .cont, σ => Q .none ⟨loc, σ.H⟩

noncomputable def Cx.push (c : Cx) (A' : Around) (env' : Env) (m : Str → Option Value) (h₀ : Heap) (E' : Value → Shared → Prop) : Cx :=
  { c with A := A', env := env', h0 := h₀, outer := (c.env, m) :: c.outer, E := E' }

theorem RelH.pop {A' : Around} {env' : Env} {m : Str → Option Value} {h₀ : Heap} {E' : Value → Shared → Prop} {H : Hp} {s : Shared} (R : RelH (c.push A' env' m h₀ E') H s) (e : Evo c.h0 h₀) : RelH c H s where
  keep := R.keep
  outs := fun p hp => R.outs p (List.mem_cons_of_mem _ hp)
  cur := ⟨m, R.outs (c.env, m) List.mem_cons_self⟩
  new := R.new
  objs := fun a o h => by
    have hO := R.objs a o h
    cases o with
    | inst C fs =>
      obtain ⟨o, d, m, h1, h2, h3, h4, h5, h6⟩ := hO
      exact ⟨o, d, m, h1, h2, h3, h4, fun hm => h5 (List.mem_cons_of_mem _ hm), h6⟩
    | list vs => exact hO
    | cell v => exact hO
    | liter l i => exact hO
    | riter x y => exact hO
    | range n => exact hO
  dinj := R.dinj
  evo0 := e.trans R.evo0
  gens := R.gens
  os := R.os

theorem def_core {k : Nat} (K : c.Ok) {A' : Around} (hA1 : A'.frames = c.A.frames) (hA2 : A'.handled = none) (hA3 : A'.depth + 2 * k ≤ 989) (hA4 : A'.units + 6 * k ≤ 8997)
    {f : Addr} {oc : Value} {od : Option Addr} {osl : Array (Option Value)} {fd : FuncData} {body : List Stmt} {args : Args} {binds : List (Str × Value)} {locs : List (N × V)} {Q : V → St → Prop} {R : Result → Shared → Prop} {s : Shared}
    (Rs : Rel c σ s) (ho : c.K.lookup f = some ⟨oc, od, .func fd, osl⟩) (hcd : codeIn c.K fd.code fd.qualname = true) (hbody : fd.body = .stmts body) (hglob : fd.globals = mainGlobals) (hbi : fd.builtins = builtinsNs)
    (hcell : ∀ x ∈ fd.scope.names, x.2 ≠ .cell) (hco : fd.scope.isCoroutine = false) (hgen : fd.scope.isGenerator = false) (hkd : fd.scope.kind = .function)
    (hbind : BindsTo s fd args binds) (hloc : ∀ x ∈ binds, fd.scope.names.lookup x.1 = some .local) (hlr : LocR s.heap locs (fun x => binds.reverse.lookup x))
    (hb : ∀ c' : Cx, c'.Ok → c'.Calls k → c'.K = c.K → c'.base = c.base → c'.X = c.X → c'.env.scope = fd.scope → WSs c' body ⟨locs, σ.H⟩ (retK σ.loc Q))
    (hR : ∀ u s' z σ', VR s'.heap z u → Rel c σ' s' → Evo s.heap s'.heap → Q z σ' → R (.ok (.ret u)) s')
    (hRe : ∀ e C H s', ExAt c.base H e C s'.heap → RelH c H s' → c.X C H → R (.error (.ref e)) s') :
    codeAny (model c.prog c.w) A' (.call (.ref f) args) R s := by
  have X : c.K.In s.heap := K.kin.keeps Rs.keep
  obtain ⟨m, hm, hl⟩ := Rs.locs
  refine codeAny_call_def (by show A'.depth < 1000; omega) (X _ _ ho) rfl (K.nolimit.keeps Rs.keep) (codeRec_of X hcd) hbody hbind hcell hloc (fun h₀ hns hk => ?_) hco hgen hkd
  have hsz : ∀ L ∈ c.frames, L < s.heap.objs.size := fun L hL => by
    rcases List.mem_cons.mp hL with rfl | hL
    · exact hm.lt
    · obtain ⟨p, hp, rfl⟩ := List.mem_map.mp hL
      exact (Rs.outs p hp).lt
  have hfresh : ∀ {h : Heap}, (∀ b o, h.get? b = some o → s.heap.get? b = some o) → h.get? s.heap.objs.size = none := fun {h} q => by
    cases z : h.get? s.heap.objs.size with
    | none => rfl
    | some o => exact absurd (Heap.lt_size (q _ _ z)) (Nat.lt_irrefl _)
  let E' : Value → Shared → Prop := fun e s' => wpAny (model c.prog c.w) (A'.deeper (callEnv fd s.heap.objs.size f)) (leaving (callEnv fd s.heap.objs.size f) e) (fun _ s'' => R (.error e) s'') (fun e' s'' => R (.error e') s'') s'
  let c' := c.push (A'.deeper (callEnv fd s.heap.objs.size f)) (callEnv fd s.heap.objs.size f) m h₀ E'
  have fine : c'.Fine := by
    refine ⟨List.nodup_cons.mpr ⟨fun h => Nat.lt_irrefl _ (hsz _ h), K.nodup⟩, fun L hL => ?_⟩
    rcases List.mem_cons.mp hL with rfl | hL
    · exact hfresh Rs.keep
    · exact K.newF L hL
  have ev0 : Evo s.heap h₀ := .of_keep hk
  have outOk : ∀ p ∈ c'.outer, p.1.scope.kind ≠ .module ∧ p.1.frame = some p.1.locals := fun p hp => by
    rcases List.mem_cons.mp hp with rfl | hp
    · exact ⟨by rw [K.kind]; decide, K.frame⟩
    · exact K.outOk p hp
  have stack : c'.A.frames = some (c'.env :: c'.outer.map (·.1)) := by
    show (A'.deeper _).frames = some (_ :: c.env :: _)
    exact Around.frames_deeper (hA1.trans K.stack)
  have hE : ∀ e C H s', ExAt c'.base H e C s'.heap → RelH c' H s' → c'.X C H → E' (.ref e) s' := fun e C H s' x Rh hx => by
    refine leaving_ok stack (frames_ok hkd rfl fine outOk Rh) Rh.keep (fun a o q => let ⟨ob, g, _⟩ := (Rh.objs a o q).exists; ⟨ob, g⟩) x fun h' k1 k2 k3 k4 => ?_
    obtain ⟨Rh', _⟩ := Rh.passed (h' := h') (t := s'.toks) k1 k4 fun b ob g n1 n2 => k3 b ob g (fun y hy q => by
      rcases List.mem_cons.mp hy with rfl | hy
      · exact n1 _ List.mem_cons_self q
      · obtain ⟨p, hp, rfl⟩ := List.mem_map.mp hy
        exact n1 _ (List.mem_cons_of_mem _ (List.mem_map_of_mem (f := fun p : Env × (Str → Option Value) => p.1.locals) hp)) q) n2
    exact hRe e C H _ k2 (Rh'.pop (Rs.evo0.trans ev0)) hx
  have ok : c'.Ok := { fine with kin := K.kin, gt := K.gt, att := K.att, meth := K.meth, cal := K.cal, ini := K.ini, exc := K.exc, gl := K.gl, bl := K.bl, nolimit := K.nolimit, kind := hkd, globals := hglob, builtins := hbi, frame := rfl, stack := stack, outOk := outOk, passes := PassesOwn.leaving (Q₁ := fun e s'' => R (.error e) s'') (E₁ := fun e' s'' => R (.error e') s''), hE := hE }
  have calls : c'.Calls k := ⟨hA2, by show A'.depth + 1 + 2 * k ≤ 990; omega, by show A'.units + 3 + 6 * k ≤ 9000; omega⟩
  have Rc : Rel c' ⟨locs, σ.H⟩ { s with heap := h₀, toks := s.toks + binds.length } := {
    keep := fun b o e => hk b o (Rs.keep b o e)
    outs := fun p hp => by
      rcases List.mem_cons.mp hp with rfl | hp
      · exact hm.keeps hk
      · exact (Rs.outs p hp).keeps hk
    cur := ⟨_, hns⟩
    new := Rs.new
    objs := fun a o e => by
      have hO := (Rs.objs a o e)
      have hO' := hO.keep hk
      cases o with
      | inst C fs =>
        obtain ⟨o, d, m, h1, h2, h3, h4, h5, h6, h7, h8⟩ := hO
        obtain ⟨od', es, ep, z1, _⟩ := id h7
        exact ⟨o, d, m, hk _ _ h1, h2, h3, h4, fun hm' => by
          rcases List.mem_cons.mp hm' with q | q
          · exact Nat.ne_of_lt (Heap.lt_size z1) q
          · exact h5 q, h6, h7.keeps hk, h8.evo ev0⟩
      | list vs => exact hO'
      | cell v => exact hO'
      | liter l i => exact hO'
      | riter x y => exact hO'
      | range n => exact hO'
    dinj := (Rs.toRelH.keeps (h' := h₀) (t := s.toks) hk).dinj
    evo0 := .refl _
    gens := Rs.gens
    os := Rs.os
    locs := ⟨_, hns, hlr.evo ev0⟩ }
  refine wpAny_mono (hb c' ok calls rfl rfl rfl rfl _ Rc) (fun fl s' ⟨z, σ', h1, R1, e1, q1⟩ => ?_) fun e s' h => h
  have back : ∀ s' σ', Rel c' σ' s' → Evo h₀ s'.heap → Rel c ⟨σ.loc, σ'.H⟩ s' ∧ Evo s.heap s'.heap := fun s' σ' R1 e1 =>
    ⟨{ R1.toRelH.pop (Rs.evo0.trans ev0) with locs := ⟨m, R1.outs (c.env, m) List.mem_cons_self, hl.evo (ev0.trans e1)⟩ }, ev0.trans e1⟩
  obtain ⟨R2, e2⟩ := back s' σ' R1 e1
  cases z with
  | next => cases h1; exact hR _ _ .none _ rfl R2 e2 q1
  | brk => cases h1; exact hR _ _ .none _ rfl R2 e2 q1
  | cont => cases h1; exact hR _ _ .none _ rfl R2 e2 q1
  | ret v => obtain ⟨u, rfl, hu⟩ := h1; exact hR _ _ v _ hu R2 e2 q1

/-- a def is called -/
structure DefAt (K : Frag) (f : Addr) (fd : FuncData) (body : List Stmt) : Prop where
  at_ : ∃ oc od osl, K.lookup f = some ⟨oc, od, .func fd, osl⟩
  code : codeIn K fd.code fd.qualname = true
  body : fd.body = .stmts body
  glob : fd.globals = mainGlobals
  bi : fd.builtins = builtinsNs
  cell : (fd.scope.names.all fun x => x.2 != .cell) = true
  co : fd.scope.isCoroutine = false
  gen : fd.scope.isGenerator = false
  kind : fd.scope.kind = .function

noncomputable def Binds (K : Frag) (fd : FuncData) (vs : List V) (kn : List Str) (kv : List V) (locs : List (N × V)) : Prop :=
  ∀ s us ku, K.In s.heap → VRs s.heap vs us → VRs s.heap kv ku → ∃ binds, BindsTo s fd ⟨us, kn.zip ku⟩ binds ∧ (∀ x ∈ binds, fd.scope.names.lookup x.1 = some .local) ∧ LocR s.heap locs (fun x => binds.reverse.lookup x)

theorem CallV.def {k : Nat} (K : c.Ok) (hc : c.Calls (k + 1)) {f : Addr} {fd : FuncData} {body : List Stmt} {vs kv : List V} {kn : List Str} {locs : List (N × V)} {Q : V → St → Prop}
    (D : DefAt c.K f fd body) (B : Binds c.K fd vs kn kv locs)
    (hb : ∀ c' : Cx, c'.Ok → c'.Calls k → c'.K = c.K → c'.base = c.base → c'.X = c.X → c'.env.scope = fd.scope → WSs c' body ⟨locs, σ.H⟩ (retK σ.loc Q)) : CallV c (.ref f) vs kn kv σ Q := fun s fu us ku Rs hf hus hku => by
  cases hf
  obtain ⟨binds, b1, b2, b3⟩ := B s us ku (K.kin.keeps Rs.keep) hus hku
  obtain ⟨oc, od, osl, ho⟩ := D.at_
  refine wpAny_call (def_core (Q := Q) (k := k) K rfl hc.handled (by have := hc.depth; omega) (by have := hc.units; omega) Rs ho D.code D.body D.glob D.bi (fun x hx => by have := List.all_eq_true.mp D.cell x hx; simpa using this) D.co D.gen D.kind b1 b2 b3 hb ?_ ?_)
  · intro u s' z σ' h1 h2 h3 h4; exact ⟨z, σ', h1, h2, h3, h4⟩
  · intro e C H s' h1 h2 h3; exact K.hE e C H s' h1 h2 h3

end Mine

end
section
open PySem PySem.W PySem.Calls PyProof.Rows
set_option maxRecDepth 100000
set_option linter.all false
namespace Mine
variable {c : Cx} {σ : St}

theorem CallV.cls {k : Nat} (K : c.Ok) (hc : c.Calls (k + 1)) {C fI : Addr} {fd : FuncData} {body : List Stmt} {vs kv : List V} {kn : List Str} {locs : Addr → List (N × V)} {Q : V → St → Prop}
    (hI : INITS.contains (C, fI) = true) (D : DefAt c.K fI fd body) (B : ∀ a, Binds c.K fd (.ref a :: vs) kn kv (locs a))
    (hb : ∀ a, σ.H a = none → ∀ c' : Cx, c'.Ok → c'.Calls k → c'.K = c.K → c'.base = c.base → c'.X = c.X → c'.env.scope = fd.scope → WSs c' body ⟨locs a, σ.H.upd a (.inst C [])⟩ (retK σ.loc fun v σ' => v = .none ∧ Q (.ref a) σ')) : CallV c (.ref C) vs kn kv σ Q := fun s fu us ku Rs hf hus hku => by
  cases hf
  have hi := List.all_eq_true.mp K.ini _ (List.contains_iff_mem.mp hI)
  simp only [Bool.and_eq_true, beq_iff_eq] at hi
  obtain ⟨⟨i1, i2⟩, i3⟩ := hi
  have X : c.K.In s.heap := K.kin.keeps Rs.keep
  obtain ⟨hp, g, d, t, os⟩ := s
  have kp : ∀ x o, hp.get? x = some o → ((hp.push emptyDict).push (instObj C hp.objs.size)).get? x = some o := fun x o e => Heap.get?_push_of_some _ (Heap.get?_push_of_some _ e)
  have hsz : ∀ L ∈ c.frames, L < hp.objs.size := fun L hL => by
    rcases List.mem_cons.mp hL with rfl | hL
    · obtain ⟨m, hm⟩ := Rs.cur; exact hm.lt
    · obtain ⟨p, hp', rfl⟩ := List.mem_map.mp hL
      exact (Rs.outs p hp').lt
  have none_at : ∀ n, hp.objs.size ≤ n → hp.get? n = none := fun n hn => by
    cases z : hp.get? n with
    | none => rfl
    | some o => have hlt : n < hp.objs.size := Heap.lt_size z; omega
  have sz1 : (hp.push emptyDict).objs.size = hp.objs.size + 1 := Heap.size_push _ _
  have g1 : ((hp.push emptyDict).push (instObj C hp.objs.size)).get? (hp.objs.size + 1) = some (instObj C hp.objs.size) := by
    rw [← sz1]; exact Heap.get?_push_size _ rfl
  have g2 : ((hp.push emptyDict).push (instObj C hp.objs.size)).get? hp.objs.size = some emptyDict := Heap.get?_push_of_some _ (Heap.get?_push_size _ rfl)
  have ns : ((hp.push emptyDict).push (instObj C hp.objs.size)).Ns1 hp.objs.size (fun _ => none) := Heap.Ns1.of_empty ⟨_, #[], _, g2, rfl, fun e he => absurd he (by simp), fun _ => rfl⟩
  have hbn : c.base.get? hp.objs.size = none := by
    cases z : c.base.get? hp.objs.size with
    | none => rfl
    | some o => have q := Rs.keep _ _ z; rw [show (Shared.mk hp g d t os).heap.get? hp.objs.size = none from none_at _ (Nat.le_refl _)] at q; cases q
  obtain ⟨R1, e1, hn⟩ := Rs.alloc (h' := (hp.push emptyDict).push (instObj C hp.objs.size)) (t := t) (hp.objs.size + 1) (.inst C []) kp (none_at _ (by show hp.objs.size ≤ _; omega))
    ⟨_, hp.objs.size, _, g1, rfl, rfl, rfl, fun hm => Nat.lt_irrefl _ (hsz _ hm), hbn, ns, ⟨fun n v e => (by cases e), fun x _ => rfl⟩⟩
    (fun ob d' k1 k2 => by
      rw [g1] at k1; cases k1; cases k2
      exact none_at _ (Nat.le_refl _))
  obtain ⟨binds, b1, b2, b3⟩ := B (hp.objs.size + 1) ⟨(hp.push emptyDict).push (instObj C hp.objs.size), g, d, t, os⟩ (.ref (hp.objs.size + 1) :: us) ku (X.keeps kp) ⟨_, _, rfl, rfl, hus.evo e1⟩ (hku.evo e1)
  obtain ⟨oc, od, osl, ho⟩ := D.at_
  refine wpAny_call (make_core (makes_of X i1) (looks_findIn X i2) (fun self => bind_fn X self (beq_iff_eq.mp i3)) (.inl rfl) ?_)
  refine def_core (A' := c.A.under (.builtin "type.__call__" ⟨.ref C :: us, kn.zip ku⟩)) (σ := ⟨σ.loc, σ.H.upd (hp.objs.size + 1) (.inst C [])⟩) (Q := fun v σ' => v = .none ∧ Q (.ref (hp.objs.size + 1)) σ') (k := k) K rfl hc.handled ?_ ?_ R1 ho D.code D.body D.glob D.bi (fun x hx => by have := List.all_eq_true.mp D.cell x hx; simpa using this) D.co D.gen D.kind b1 b2 b3 (hb _ hn) ?_ ?_
  · show c.A.depth + 1 + 2 * k ≤ 989; have := hc.depth; omega
  · show c.A.units + 1 + 6 * k ≤ 8997; have := hc.units; omega
  · rintro u s' z σ' h1 h2 h3 ⟨rfl, h4⟩
    exact ⟨h1, .ref _, σ', rfl, h2, e1.trans h3, h4⟩
  · intro e C' H s' h1 h2 h3; exact K.hE e C' H s' h1 h2 h3

/-! data words -/
section
variable {i j : Int} {a b : List Nat}
theorem Bin.addI : Bin .Add (.int i) (.int j) (.int (i + j)) := fun _ _ _ _ _ _ _ _ ⟨_, e1⟩ ⟨_, e2⟩ h => by subst e1 e2; exact PyProof.Rows.add_int (h _ _ ⟨_, rfl⟩)
theorem Bin.subI : Bin .Sub (.int i) (.int j) (.int (i - j)) := fun _ _ _ _ _ _ _ _ ⟨_, e1⟩ ⟨_, e2⟩ h => by subst e1 e2; exact PyProof.Rows.sub_int (h _ _ ⟨_, rfl⟩)
theorem Inp.addI : Inp .Add (.int i) (.int j) (.int (i + j)) := fun _ _ _ _ _ _ _ _ ⟨_, e1⟩ ⟨_, e2⟩ h => by subst e1 e2; exact PyProof.Rows.iadd_int (h _ _ ⟨_, rfl⟩)
theorem Inp.subI : Inp .Sub (.int i) (.int j) (.int (i - j)) := fun _ _ _ _ _ _ _ _ ⟨_, e1⟩ ⟨_, e2⟩ h => by subst e1 e2; exact P.isub_int (h _ _ ⟨_, rfl⟩)
theorem Bin.modI (hj : 0 < j) : Bin .Mod (.int i) (.int j) (.int (i % j)) := fun _ _ _ _ _ _ _ _ ⟨_, e1⟩ ⟨_, e2⟩ h => by
  subst e1 e2
  refine PyProof.Rows.mod_int (by omega) ?_
  rw [Int.fmod_eq_emod_of_nonneg _ (by omega)]
  exact h _ _ ⟨_, rfl⟩
theorem Bin.divI (hj : 0 < j) (hi : 0 ≤ i) (hi6 : i < 2 ^ 30) (hj6 : j < 2 ^ 30) : Bin .FloorDiv (.int i) (.int j) (.int (i / j)) := fun _ _ _ _ _ _ _ _ ⟨_, e1⟩ ⟨_, e2⟩ h => by
  subst e1 e2
  refine PyProof.Rows.floordiv_int (by omega) ?_ (.inl (PyProof.noPylong_small (by omega)))
  rw [Int.fdiv_eq_ediv_of_nonneg _ (by omega)]
  exact h _ _ ⟨_, rfl⟩
theorem Bin.addS (h : a.length + b.length ≤ 10000000) : Bin .Add (.str a) (.str b) (.str (a ++ b)) := fun _ _ _ _ _ _ _ _ ⟨_, e1⟩ ⟨_, e2⟩ hq => by
  subst e1 e2
  refine PyProof.Rows.add_str (fun t' tk => hq _ _ ⟨t', ?_⟩) (by simp only [Str.length, List.size_toArray]; rw [sizeLine_eq]; omega)
  congr 1
  exact Str.ext' (by simp [Str.cps_append])
theorem Inp.addS (h : a.length + b.length ≤ 10000000) : Inp .Add (.str a) (.str b) (.str (a ++ b)) := fun _ _ _ _ _ _ _ _ ⟨_, e1⟩ ⟨_, e2⟩ hq => by
  subst e1 e2
  refine PyProof.Rows.iadd_str (fun t' tk => hq _ _ ⟨t', ?_⟩) (by simp only [Str.length, List.size_toArray]; rw [sizeLine_eq]; omega)
  congr 1
  exact Str.ext' (by simp [Str.cps_append])

theorem Cmp.eqI : Cmp .Eq (.int i) (.int j) (decide (i = j)) := fun _ _ _ _ s _ _ _ _ ⟨_, e1⟩ ⟨_, e2⟩ h => by subst e1 e2; exact PyProof.Rows.eq_int (h s.toks)
theorem Cmp.neI : Cmp .NotEq (.int i) (.int j) (!decide (i = j)) := fun _ _ _ _ s _ _ _ _ ⟨_, e1⟩ ⟨_, e2⟩ h => by subst e1 e2; exact PyProof.Rows.ne_int (h s.toks)
theorem Cmp.ltI : Cmp .Lt (.int i) (.int j) (decide (i < j)) := fun _ _ _ _ s _ _ _ _ ⟨_, e1⟩ ⟨_, e2⟩ h => by subst e1 e2; exact PyProof.Rows.lt_int (h s.toks)
theorem Cmp.gtI : Cmp .Gt (.int i) (.int j) (decide (j < i)) := fun _ _ _ _ s _ _ _ _ ⟨_, e1⟩ ⟨_, e2⟩ h => by subst e1 e2; exact PyProof.Rows.gt_int (h s.toks)
theorem Cmp.leI : Cmp .LtE (.int i) (.int j) (decide (i ≤ j)) := fun _ _ _ _ s _ _ _ _ ⟨_, e1⟩ ⟨_, e2⟩ h => by subst e1 e2; exact P.le_int (h s.toks)
theorem str_eq_iff : ((⟨a.toArray⟩ : Str) == ⟨b.toArray⟩) = decide (a = b) := by
  by_cases h : a = b
  · subst h; simp
  · have : (⟨a.toArray⟩ : Str) ≠ ⟨b.toArray⟩ := fun e => h (by simpa using e)
    simp [h]
theorem Cmp.eqS : Cmp .Eq (.str a) (.str b) (decide (a = b)) := fun _ _ _ _ s _ _ _ _ ⟨_, e1⟩ ⟨_, e2⟩ h => by
  subst e1 e2; refine PyProof.Rows.eq_str ?_; rw [str_eq_iff]; exact h s.toks
theorem Cmp.neS : Cmp .NotEq (.str a) (.str b) (!decide (a = b)) := fun _ _ _ _ s _ _ _ _ ⟨_, e1⟩ ⟨_, e2⟩ h => by
  subst e1 e2; refine PyProof.Rows.ne_str ?_; unfold bne; rw [str_eq_iff]; exact h s.toks
noncomputable def V.isNone : V → Bool
  | .none => true
  | _ => false
theorem isNone_of {h : Heap} {v : V} {u : Value} (r : VR h v u) : (u == Value.none) = v.isNone := by
  cases v <;> simp only [VR] at r
  all_goals first
    | (subst r; rfl)
    | (obtain ⟨t, rfl⟩ := r; rfl)
    | (obtain ⟨a, xs, rfl, _⟩ := r; rfl)
theorem Cmp.isN {v : V} : Cmp .Is v .none v.isNone := fun _ _ _ _ s _ _ _ _ h1 h2 h => by
  cases h2; refine is_none ?_; rw [isNone_of h1]; exact h s.toks
theorem Cmp.isNotN {v : V} : Cmp .IsNot v .none (!v.isNone) := fun _ _ _ _ s _ _ _ _ h1 h2 h => by
  cases h2; refine isNot_none ?_; rw [isNone_of h1]; exact h s.toks
theorem Tru.bool {b : Bool} : Tru (.bool b) b := fun _ _ _ _ _ _ _ h1 h => by cases h1; exact wpAny_truthy_bool h
theorem Tru.int : Tru (.int i) (!decide (i = 0)) := fun _ _ _ _ _ _ _ ⟨_, e⟩ h => by subst e; exact P.truthy_int h
end

end Mine

end
section
open PySem PySem.W PySem.Calls PyProof.Rows
set_option maxRecDepth 100000
set_option linter.all false
namespace Mine
variable {c : Cx} {σ : St}

theorem nameG_same (K : c.Ok) {A : Around} {E : Value → Shared → Prop} {H : Hp} {s : Shared} {n : N} {pos : Pos} {T : Addr} (R : RelH c H s) (hk : c.env.kindOf (nm n) = some .globalImplicit) (hl : lk GT n = some (.ref T)) :
    wpAny (model c.prog c.w) A (eval (.Name (nm n) pos) c.env) (fun v s₁ => v = .ref T ∧ s₁ = s) E s := by
  have e := List.all_eq_true.mp K.gt _ (lk_mem hl)
  obtain ⟨mg, hg⟩ := K.gl
  obtain ⟨mb, hb, hbb⟩ := K.bl
  have hg' : s.heap.Ns c.env.globals mg := by rw [K.globals]; exact hg.keeps R.keep
  have hb' : s.heap.Ns c.env.builtins mb := by rw [K.builtins]; exact hb.keeps R.keep
  have X : c.K.In s.heap := K.kin.keeps R.keep
  dsimp only at e
  split at e
  · rename_i u q
    exact Name_function_global K.kind hk (loadGlobal_global hg' (mg_of K.kin hg q) ⟨vrB_ok X e, rfl⟩) (nm_debug n)
  · rename_i q
    split at e
    · rename_i u q2
      exact Name_function_global K.kind hk (loadGlobal_builtin hg' (mg_none_of K.kin hg q) hb' ((hbb _ (nm_name n)).trans q2) ⟨vrB_ok X e, rfl⟩) (nm_debug n)
    · cases e
  · cases e

theorem exAt_new {s : Shared} {H : Hp} {h' : Heap} {e C : Addr} {args : List Value} (R : RelH c H s) (hm : Heap.MadeExcOf s.heap h' e (.ref C) args) : ExAt c.base H e C h' := by
  obtain ⟨t, ht, _⟩ := hm.there
  refine ⟨_, _, ht, rfl, rfl, ?_, ?_, .inl (by rfl)⟩
  · cases q : c.base.get? e with
    | none => rfl
    | some o => have z := R.keep _ _ q; rw [hm.new] at z; cases z
  · cases q : H e with
    | none => rfl
    | some o => obtain ⟨ob, h1, _⟩ := (R.objs e o q).exists; rw [hm.new] at h1; cases h1

theorem hasBase {h : Heap} {bm : List Value} (T : OwnTail h excTail bm) : bm.contains (.type "BaseException") = true := T.hasType (by decide)

theorem W.raiseCall (K : c.Ok) (hh : c.A.handled = none) {n : N} {np cpos pos : Pos} {args : List PySem.Expr} {C : Addr} {Q : Fl → St → Prop} (hg : lk GT n = some (.ref C)) (hk : c.env.kindOf (nm n) = some .globalImplicit) (hC : isExc C = true)
    (h : WA c args cpos σ fun vs σ₁ => vs.length ≤ 1000 ∧ c.X C σ₁.H) (hp : (backTo cpos (starEach args c.env)).any (·.1) = false := by with_unfolding_all rfl) : WS c (.Raise (some (.Call (.Name (nm n) np) args [] cpos)) none pos) σ Q := fun s R => by
  obtain ⟨nm', q, N, bs, bm, hdct, sn, sub, ab, col, dd, k0, k1, k2, k3, k5, mN, o1, o2, o3, o4, o5⟩ := (excB_ok K.kin K.exc hC).obj
  refine wpAny_Raise_call_subT (C := C) (nm := nm') (q := q) (N := N) (bs := bs) (bm := bm) (hdct := hdct) (sn := sn) (sub := sub) (ab := ab) (col := col) (dd := dd) (k0 := k0) (k1 := k1) (k2 := k2) (k3 := k3) (k5 := k5)
    PySem.F.excBase_Exception (mN := mN) (hasBase o4) hh hp o3 (wpAny_mono (nameG_same K R.toRelH hk hg) (fun v s₁ ⟨e1, e2⟩ => ?_) fun _ _ x => x)
  subst e1 e2
  refine ⟨rfl, evalArgs_any hp rfl (wpAny_mono (h s₁ R) (fun us s₂ ⟨vs, σ₂, h2, R2, e2, hl, hx⟩ => wpAny_evalAll_nil ⟨rfl, by show us.length ≤ _; rw [h2.length, sizeLine_eq]; omega, R2.keep _ _ o1, o2.keeps R2.keep, o4.keeps R2.keep, fun h' e hm => ?_⟩) fun _ _ x => x)⟩
  exact K.hE e C σ₂.H _ (exAt_new R2.toRelH hm) (R2.toRelH.keeps (t := s₂.toks) hm.keeps) hx

/-- two exception classes of the program stand to one another -/
theorem issubclass_own {prog : Program} {w : World} {A : Around} {E : Value → Shared → Prop} {s : Shared} {C : Addr} {Q : Value → Shared → Prop} (X : ExcOk s.heap C) (hC : isExc C = true) (h : Q (.bool true) s) :
    wpAny (model prog w) A (call (.builtin "issubclass") [.ref C, .ref C]) Q E s := by
  obtain ⟨nm', q, N, bs, bm, hdct, sn, sub, ab, col, dd, k0, k1, k2, k3, k5, mN, o1, o2, o3, o4, o5⟩ := X.obj
  refine call_function_meets F.kind_issubclass F.plain_issubclass F.entry_issubclass (F.args_issubclass_2 _ _) (S := fun _ R s' => s' = s ∧ R (.ok (.ret (.bool true))) s) ?_ ⟨rfl, h⟩
  intro prog w A R s' hs
  obtain ⟨rfl, hs⟩ := hs
  refine issubclass_outer ?_
  obtain ⟨hp, g, d, t, os⟩ := s'
  have hcC : (Value.ref C :: bm).contains (.ref C) = true := by simp
  repeat (any_goals (first | assumption | with_reducible refine wpAny_loadPart_at o1 ?_ | (with_reducible refine wpAny_isSubtype_exc o1 ?_; rw [hcC]) | wp_step))

theorem W.raiseC (K : c.Ok) (hh : c.A.handled = none) {n : N} {np pos : Pos} {C : Addr} {Q : Fl → St → Prop} (hg : lk GT n = some (.ref C)) (hk : c.env.kindOf (nm n) = some .globalImplicit) (hC : isExc C = true)
    (hx : c.X C σ.H) : WS c (.Raise (some (.Name (nm n) np)) none pos) σ Q := fun s R => by
  have XO := excB_ok K.kin K.exc hC
  obtain ⟨nm', q, N, bs, bm, hdct, sn, sub, ab, col, dd, k0, k1, k2, k3, k5, mN, o1, o2, o3, o4, o5⟩ := XO.obj
  have g1 := R.keep _ _ o1
  have hbase : (Value.ref C :: bm).contains (.type "BaseException") = true := by rw [List.contains_cons, hasBase o4, Bool.or_true]
  show wpAny (model c.prog c.w) c.A (do standAt pos; raiseStmt c.env (some (do let v ← eval (.Name (nm n) np) c.env; standAt pos; pure v)) none) _ _ _
  refine wpAny_bind (wpAny_standAt ?_)
  unfold raiseStmt
  dsimp only
  refine wpAny_bind (wpAny_bind (wpAny_mono (nameG_same K R.toRelH hk hg) (fun v s₁ e12 => wpAny_bind (wpAny_standAt (wpAny_pure ?_))) fun _ _ e => e))
  obtain ⟨e1, e2⟩ := e12
  subst e1 e2
  refine wpAny_bind (wpAny_pure ?_)
  dsimp only
  refine wpAny_bind (wpAny_holding ?_)
  have isT : ∀ {Q' : Bool → Shared → Prop} {E' : Value → Shared → Prop} {s' : Shared}, s'.heap.get? C = s₁.heap.get? C → Q' true s' → wpAny (model c.prog c.w) c.A (isType (.ref C)) Q' E' s' := fun {Q' E' s'} e hq => by
    unfold isType loadHead
    refine wpAny_bind (wpAny_loadPart (e.trans g1) ?_)
    exact wpAny_pure hq
  unfold excFromValue isExcClass
  refine wpAny_bind (wpAny_bind (isT rfl ?_))
  simp only [if_true]
  obtain ⟨hp, g, d, t, os⟩ := s₁
  refine wpAny_isSubtype_exc g1 ?_
  rw [hbase]
  simp only [if_true]
  refine wpAny_bind (wpAny_call_exc_subT PySem.F.excBase_Exception (o4.keeps R.keep) g1 (o2.keeps R.keep) o3 (fun h' e hm => ?_) (hrest := by simp))
  obtain ⟨tt, ht, _⟩ := hm.there
  have g2 := hm.keeps _ _ g1
  have tyE : ∀ {Q' : Value → Shared → Prop} {E' : Value → Shared → Prop}, Q' (.ref C) ⟨h', g, d, t, os⟩ → wpAny (model c.prog c.w) c.A (typeOf (.ref e)) Q' E' ⟨h', g, d, t, os⟩ := fun hq => by
    unfold typeOf
    dsimp only
    refine wpAny_bind (wpAny_loadPart ht ?_)
    exact wpAny_pure hq
  refine wpAny_bind ?_
  unfold isInstance
  refine wpAny_bind (tyE (wpAny_isSubtype_exc g2 ?_))
  rw [hbase]
  simp only [Bool.not_true, Bool.false_eq_true, if_false]
  refine wpAny_pure ?_
  refine wpAny_bind (isT (s' := ⟨h', g, d, t, os⟩) (g2.trans g1.symm) ?_)
  simp only [if_true]
  refine wpAny_bind (wpAny_holding ?_)
  unfold raisedFor
  simp only [Bool.false_eq_true, if_false]
  refine wpAny_bind (tyE ?_)
  refine wpAny_bind (issubclass_own (s := ⟨h', g, d, t, os⟩) (excB_ok ((K.kin.keeps R.keep).keeps hm.keeps) K.exc hC) hC ?_)
  refine wpAny_bind (wpAny_truthy_bool ?_)
  simp only [if_true]
  refine wpAny_pure ?_
  unfold setFlight
  refine wpAny_bind (wpAny_bind (wpAny_field (i := 1) (x := Value.none) ht rfl rfl ?_))
  rw [if_neg (by decide)]
  refine wpAny_pure ?_
  exact wpAny_raiseNew_none hh (K.hE e C σ.H _ (exAt_new R.toRelH hm) (R.toRelH.keeps (t := t) hm.keeps) hx)

end Mine

end
section
open PySem PySem.W PySem.Calls PyProof.Rows
set_option maxRecDepth 100000
set_option linter.all false
namespace Mine
variable {c : Cx} {σ : St}

theorem excMatch_ok (K : c.Ok) {A : Around} {E : Value → Shared → Prop} {H : Hp} {s : Shared} {e C T : Addr} {Q : Bool → Shared → Prop} (R : RelH c H s) (hx : ExAt c.base H e C s.heap) (hC : isExc C = true) (hT : isExc T = true)
    (hq : Q (mroHas C T) s) : wpAny (model c.prog c.w) A (excMatches (.ref e) (.ref T)) Q E s := by
  obtain ⟨nm', q, N, bs, bm, hdct, sn, sub, ab, col, dd, k0, k1, k2, k3, k5, mN, o1, o2, o3, o4, o5⟩ := (excB_ok (K.kin.keeps R.keep) K.exc hC).obj
  obtain ⟨nm'', q', N', bs', bm', hdct', sn', sub', ab', col', dd', k0', k1', k2', k3', k5', mN', p1, p2, p3, p4, p5⟩ := (excB_ok (K.kin.keeps R.keep) K.exc hT).obj
  obtain ⟨oe, vs, he, hcls, hd, _⟩ := hx
  have hcB : (Value.ref T :: bm').contains (.type "BaseException") = true := by rw [List.contains_cons, hasBase p4, Bool.or_true]
  have hcC := o5 T
  have f := tc_notTuple
  obtain ⟨hp, g, d, t, os⟩ := s
  unfold excMatches
  cases hb : mroHas C T <;> rw [hb] at hcC hq <;>
  (repeat (first | (with_reducible refine wpAny_loadPart_at he ?_; rw [hcls]) | with_reducible refine wpAny_loadPart_at p1 ?_ | (with_reducible refine wpAny_isSubtype_exc p1 ?_; rw [hcB]) | (with_reducible refine wpAny_isSubtype_exc o1 ?_; rw [hcC]) | wp_step)) <;>
  exact hq

theorem setFlight_ok {A : Around} {E : Value → Shared → Prop} {H : Hp} {s : Shared} {e C : Addr} {Q : Unit → Shared → Prop} (R : RelH c H s) (hx : ExAt c.base H e C s.heap)
    (hq : ∀ h', RelH c H { s with heap := h' } → Evo s.heap h' → Q () { s with heap := h' }) : wpAny (model c.prog c.w) A (setFlight (.ref e) none) Q E s := by
  obtain ⟨oe, vs, he, hcls, hd, hbe, hHe, h1⟩ := hx
  rcases h1 with h1 | ⟨T, oT, ts, h1, hbT, hHT, hTe, hT, hdT, h3⟩
  · unfold setFlight
    refine wpAny_bind (wpAny_field he hd h1 ?_)
    rw [if_neg (by decide)]
    exact wpAny_pure (hq s.heap R (.refl _))
  · refine wpAny_setFlight_none he hd h1 hT hdT (Array.getElem?_eq_some_iff.mp h3).1 ?_
    have other : ∀ b, b ≠ T → (s.heap.update T (Obj.mapFields (·.setIfInBounds 3 Value.none))).get? b = s.heap.get? b := fun b hb => Heap.get?_update_other _ _ (Ne.symm hb)
    obtain ⟨R', ev⟩ := R.passed (h' := s.heap.update T (Obj.mapFields (·.setIfInBounds 3 Value.none))) (t := s.toks)
      (fun b o g => (other b (by rintro rfl; rw [hbT] at g; cases g)).trans (R.keep b o g))
      (fun b m ⟨o, es, ep, g1, g2, g3, g4⟩ => ⟨o, es, ep, (other b (by rintro rfl; rw [hT] at g1; cases g1; rw [hdT] at g2; cases g2)).trans g1, g2, g3, g4⟩)
      (fun b ob g _ n2 => (other b (by
        rintro rfl
        rw [hT] at g; cases g
        rcases n2 with n2 | n2 | n2
        · exact n2 _ hdT
        · exact n2 hHT
        · exact n2 hbT)).trans g)
    exact hq _ R' ev

noncomputable def HX (c : Cx) (Q : Fl → St → Prop) : List ExceptHandler → Addr → Hp → Prop
  | [], _, _ => False
  | h :: rest, C, H => ∃ n T np b₀ body pos, h = .ExceptHandler (some (.Name (nm n) np)) none (b₀ :: body) pos ∧ lk GT n = some (.ref T) ∧ isExc T = true ∧ c.env.kindOf (nm n) = some .globalImplicit ∧
      (mroHas C T = true → ∀ cm : Cx, cm.Ok → cm.env = c.env → cm.A.units = c.A.units → WSs cm (b₀ :: body) ⟨[], H⟩ Q) ∧ (mroHas C T = false → HX c Q rest C H)

theorem handle_ok (K : c.Ok) {e C : Addr} {H : Hp} (hC : isExc C = true) {Q : Fl → St → Prop} : ∀ (hs : List ExceptHandler) (s : Shared), RelH c H s → ExAt c.base H e C s.heap → HX c Q hs C H →
    wpAny (model c.prog c.w) c.A (handleBy (.ref e) c.env hs) (fun f s' => ∃ fl σ', FR s'.heap fl f ∧ Rel c σ' s' ∧ Evo s.heap s'.heap ∧ Q fl σ') c.E s
  | [], _, _, _, hX => by unfold HX at hX; exact hX.elim
  | h :: rest, s, R, hx, hX => by
      unfold HX at hX
      obtain ⟨n, T, np, b₀, suite, pos, rfl, hg, hT, hk, h1, h2⟩ := hX
      refine wpAny_handleBy_cons (codeAny_handlers_test (wpAny_mono (nameG_same K R hk hg) (fun v s₁ ⟨e1, e2⟩ => ?_) fun _ _ x => x)) (by intro q; cases q)
      subst e1 e2
      refine excMatch_ok K R hx hC hT ?_
      cases hb : mroHas C T with
      | false =>
        simp only [Bool.false_eq_true, if_false]
        exact handle_ok K hC rest s₁ R hx (h2 hb)
      | true =>
        simp only [if_true]
        refine codeAny_handlers_suite (setFlight_ok R hx fun h' R' ev => ?_)
        let cm : Cx := { c with A := c.A.mark (some (.ref e)), E := fun _ _ => False, X := fun _ _ => False }
        have Km : cm.Ok := { nodup := K.nodup, newF := K.newF, kin := K.kin, gt := K.gt, att := K.att, meth := K.meth, cal := K.cal, ini := K.ini, exc := K.exc, gl := K.gl, bl := K.bl, nolimit := K.nolimit, kind := K.kind, globals := K.globals, builtins := K.builtins, frame := K.frame, stack := K.stack, outOk := K.outOk, passes := PassesOwn.never, hE := fun _ _ _ _ _ _ q => q.elim }
        obtain ⟨m, hm⟩ := R'.cur
        have Rm : Rel cm ⟨[], H⟩ { s₁ with heap := h' } := { keep := R'.keep, outs := R'.outs, cur := R'.cur, new := R'.new, objs := R'.objs, dinj := R'.dinj, evo0 := R'.evo0, gens := R'.gens, os := R'.os, locs := ⟨m, hm, fun _ _ z => by cases z⟩ }
        refine wpAny_mono (h1 hb cm Km rfl rfl _ Rm) (fun f s₂ ⟨fl, σ', q1, q2, q3, q4⟩ => ⟨fl, σ', q1, ?_, ev.trans q3, q4⟩) fun _ _ x => x.elim
        exact { keep := q2.keep, outs := q2.outs, cur := q2.cur, new := q2.new, objs := q2.objs, dinj := q2.dinj, evo0 := q2.evo0, gens := q2.gens, os := q2.os, locs := q2.locs }

theorem W.try (K : c.Ok) {body : List Stmt} {h₀ : ExceptHandler} {hs : List ExceptHandler} {pos : Pos} {Q : Fl → St → Prop}
    (h : ∀ c' : Cx, c'.Ok → (∀ k, c.Calls k → c'.Calls k) → c'.A = c.A → c'.env = c.env → c'.K = c.K → c'.base = c.base → c'.X = (fun C H => isExc C = true ∧ HX c Q (h₀ :: hs) C H) → WSs c' body σ Q) : WS c (.Try body (h₀ :: hs) [] [] pos) σ Q := fun s R => by
  refine wpAny_Try_except ?_
  let K₁ : Value → Shared → Prop := fun e s₂ => wpAny (model c.prog c.w) c.A (setFlight e none) (fun _ s₃ => wpAny (model c.prog c.w) c.A (handleBy e c.env (h₀ :: hs)) (fun f s' => ∃ fl σ', FR s'.heap fl f ∧ Rel c σ' s' ∧ Evo s.heap s'.heap ∧ Q fl σ') c.E s₃) c.E s₂
  let c' : Cx := { c with h0 := s.heap, E := fun e s₁ => wpAny (model c.prog c.w) c.A (noteFrame e c.env) (fun _ s₂ => K₁ e s₂) c.E s₁, X := fun C H => isExc C = true ∧ HX c Q (h₀ :: hs) C H }
  have hE : ∀ e C H s₁, ExAt c'.base H e C s₁.heap → RelH c' H s₁ → c'.X C H → c'.E (.ref e) s₁ := by
    intro e C H s₁ x Rh hX
    have Rc : RelH c H s₁ := { keep := Rh.keep, outs := Rh.outs, cur := Rh.cur, new := Rh.new, objs := Rh.objs, dinj := Rh.dinj, evo0 := R.evo0.trans Rh.evo0, gens := Rh.gens, os := Rh.os }
    refine note_ok K.stack (frames_ok K.kind K.frame K.toFine K.outOk Rc) Rc.keep (fun a o q => let ⟨ob, g, _⟩ := (Rc.objs a o q).exists; ⟨ob, g⟩) x fun h' k1 k2 k3 k4 => ?_
    obtain ⟨Rh', ev⟩ := Rc.passed (h' := h') (t := s₁.toks) k1 k4 fun b ob g n1 n2 => k3 b ob g (fun y hy q => by
      rcases List.mem_cons.mp hy with rfl | hy
      · exact n1 _ List.mem_cons_self q
      · obtain ⟨p, hp, rfl⟩ := List.mem_map.mp hy
        exact n1 _ (List.mem_cons_of_mem _ (List.mem_map_of_mem (f := fun p : Env × (Str → Option Value) => p.1.locals) hp)) q) n2
    exact wpAny_mono (handle_ok K hX.1 _ _ Rh' k2 hX.2) (fun f s₂ ⟨fl, σ', q1, q2, q3, q4⟩ => ⟨fl, σ', q1, q2, (Rh.evo0.trans ev).trans q3, q4⟩) fun _ _ x => x
  have K' : c'.Ok := { nodup := K.nodup, newF := K.newF, kin := K.kin, gt := K.gt, att := K.att, meth := K.meth, cal := K.cal, ini := K.ini, exc := K.exc, gl := K.gl, bl := K.bl, nolimit := K.nolimit, kind := K.kind, globals := K.globals, builtins := K.builtins, frame := K.frame, stack := K.stack, outOk := K.outOk, passes := PassesOwn.looking, hE := hE }
  have R' : Rel c' σ s := { keep := R.keep, outs := R.outs, cur := R.cur, new := R.new, objs := R.objs, dinj := R.dinj, evo0 := .refl _, gens := R.gens, os := R.os, locs := R.locs }
  refine wpAny_mono (h c' K' (fun k x => ⟨x.1, x.2, x.3⟩) rfl rfl rfl rfl rfl s R') (fun f s₁ ⟨fl, σ', q1, q2, q3, q4⟩ => ?_) fun _ _ x => x
  have R1 : Rel c σ' s₁ := { keep := q2.keep, outs := q2.outs, cur := q2.cur, new := q2.new, objs := q2.objs, dinj := q2.dinj, evo0 := R.evo0.trans q2.evo0, gens := q2.gens, os := q2.os, locs := q2.locs }
  cases fl with
  | next => cases q1; exact wpAny_execs_nil ⟨.next, σ', rfl, R1, q3, q4⟩
  | brk => cases q1; exact ⟨.brk, σ', rfl, R1, q3, q4⟩
  | cont => cases q1; exact ⟨.cont, σ', rfl, R1, q3, q4⟩
  | ret v => obtain ⟨u, rfl, hu⟩ := q1; exact ⟨.ret v, σ', ⟨u, rfl, hu⟩, R1, q3, q4⟩

end Mine

end
section
open PySem PySem.W PySem.Calls PyProof.Rows
set_option maxRecDepth 100000
set_option linter.all false
namespace Mine
variable {c : Cx} {σ : St}

/-! a list that the caller laid -/
noncomputable def BL (c : Cx) (a : Addr) (vs : List V) : Prop := ∃ xs, c.base.IsList a xs.toArray ∧ VRs c.base vs xs
theorem BL.now {a : Addr} {vs : List V} {H : Hp} {s : Shared} (b : BL c a vs) (R : RelH c H s) : ∃ xs, s.heap.IsList a xs.toArray ∧ VRs s.heap vs xs := by
  obtain ⟨xs, ⟨o, h1, h2, n, h3⟩, hr⟩ := b
  exact ⟨xs, ⟨o, R.keep _ _ h1, h2, n, h3⟩, hr.evo (.of_keep R.keep)⟩
/-! calls of the builtins -/
theorem CallV.lenL {a : Addr} {vs : List V} {Q : V → St → Prop} (hH : σ.H a = some (.list vs)) (hl : vs.length ≤ 1000000) (h : Q (.int vs.length) σ) : CallV c (.bi "len") [.ref a] [] [] σ Q := fun s fu us ku R hf hus hku => by
  cases hf; cases hku
  obtain ⟨y, ys, rfl, hy, hys⟩ := hus
  cases hys; cases hy
  obtain ⟨xs, hL, hr⟩ := (R.objs a _ hH).isList
  have e : xs.toArray.size = vs.length := by rw [List.size_toArray, hr.length]
  refine call_len_list hL (by rw [e]; omega) ⟨.int vs.length, σ, ⟨_, by rw [e]⟩, R.toks, .refl _, h⟩
theorem CallV.lenB {a : Addr} {vs : List V} {Q : V → St → Prop} (hb : BL c a vs) (hl : vs.length ≤ 1000000) (h : Q (.int vs.length) σ) : CallV c (.bi "len") [.ref a] [] [] σ Q := fun s fu us ku R hf hus hku => by
  cases hf; cases hku
  obtain ⟨y, ys, rfl, hy, hys⟩ := hus
  cases hys; cases hy
  obtain ⟨xs, hL, hr⟩ := hb.now R.toRelH
  have e : xs.toArray.size = vs.length := by rw [List.size_toArray, hr.length]
  refine call_len_list hL (by rw [e]; omega) ⟨.int vs.length, σ, ⟨_, by rw [e]⟩, R.toks, .refl _, h⟩
theorem CallV.lenS {l : List Nat} {Q : V → St → Prop} (hl : l.length ≤ 1000000) (h : Q (.int l.length) σ) : CallV c (.bi "len") [.str l] [] [] σ Q := fun s fu us ku R hf hus hku => by
  cases hf; cases hku
  obtain ⟨y, ys, rfl, ⟨t, rfl⟩, hys⟩ := hus
  cases hys
  have e : (⟨l.toArray⟩ : Str).length = l.length := by simp [Str.length]
  exact P.len_str (by rw [e]; omega) ⟨.int l.length, σ, ⟨_, by rw [e]⟩, R.toks, .refl _, h⟩
theorem CallV.min2 (hh : c.A.handled = none) {i j : Int} {Q : V → St → Prop} (h : Q (.int (min i j)) σ) : CallV c (.bi "min") [.int i, .int j] [] [] σ Q := fun s fu us ku R hf hus hku => by
  cases hf; cases hku
  obtain ⟨y, ys, rfl, ⟨t, rfl⟩, y2, ys2, rfl, ⟨t2, rfl⟩, hys⟩ := hus
  cases hys
  refine min_two_ints hh fun h' tk hk => ⟨.int (min i j), σ, ?_, R.keeps hk, .of_keep hk, h⟩
  by_cases hlt : j < i
  · rw [if_pos hlt]; exact ⟨t2, by rw [Int.min_def]; congr 1; omega⟩
  · rw [if_neg hlt]; exact ⟨t, by rw [Int.min_def]; congr 1; omega⟩
theorem CallV.range {n : Int} {Q : V → St → Prop} (h : ∀ a, σ.H a = none → Q (.ref a) ⟨σ.loc, σ.H.upd a (.range n)⟩) : CallV c (.ty "range") [.int n] [] [] σ Q := fun s fu us ku R hf hus hku => by
  cases hf; cases hku
  obtain ⟨y, ys, rfl, ⟨t, rfl⟩, hys⟩ := hus
  cases hys
  refine call_range_1 ?_
  obtain ⟨R', e', hn⟩ := R.alloc (h' := s.heap.push { cls := .type "range", data := .fields #[.int 0 s.toks, .int n t, .int 1 (s.toks + 1)] }) (t := s.toks + 1 + 1) s.heap.objs.size (.range n) (fun _ _ e => Heap.get?_push_of_some _ e)
    (by cases q : s.heap.get? s.heap.objs.size with
      | none => rfl
      | some o => exact absurd (Heap.lt_size q) (Nat.lt_irrefl _))
    ⟨_, _, _, Heap.get?_push_size _ rfl⟩ (fun ob d e1 e2 => by rw [Heap.get?_push_size _ rfl] at e1; cases e1; cases e2)
  exact ⟨.ref _, _, rfl, R', e', h _ hn⟩
theorem CallV.listT {vs : List V} {Q : V → St → Prop} (hl : vs.length ≤ 1000000) (h : ∀ a, σ.H a = none → Q (.ref a) ⟨σ.loc, σ.H.upd a (.list vs)⟩) : CallV c (.ty "list") [.tup vs] [] [] σ Q := fun s fu us ku R hf hus hku => by
  cases hf; cases hku
  obtain ⟨y, ys, rfl, ⟨a, xs, rfl, ⟨o, g1, g2, n, g3⟩, hr⟩, hys⟩ := hus
  cases hys
  refine call_list_seq a (.inr rfl) g1 g2 g3 (fun h' c' k1 k2 => ?_) (by rw [List.size_toArray, hr.length, sizeLine_eq]; omega)
  obtain ⟨R', e', hn⟩ := R.alloc (h' := h') (t := s.toks) s.heap.objs.size (.list vs) k1
    (by cases q : s.heap.get? s.heap.objs.size with
      | none => rfl
      | some o => exact absurd (Heap.lt_size q) (Nat.lt_irrefl _))
    ⟨_, xs, _, k2, rfl, rfl, rfl, hr.evo (.of_keep k1)⟩ (fun ob d e1 e2 => by rw [k2] at e1; cases e1; cases e2)
  exact ⟨.ref _, _, rfl, R', e', h _ hn⟩
theorem CallV.chr {i : Int} {Q : V → St → Prop} (h0 : 0 ≤ i) (h1 : i < 1000) (h : Q (.str [i.toNat]) σ) : CallV c (.bi "chr") [.int i] [] [] σ Q := fun s fu us ku R hf hus hku => by
  cases hf; cases hku
  obtain ⟨y, ys, rfl, ⟨t, rfl⟩, hys⟩ := hus
  cases hys
  exact P.chr_of_int (by simp; omega) ⟨.str [i.toNat], σ, ⟨_, rfl⟩, R.toks, .refl _, h⟩
theorem CallV.isS {l : List Nat} {Q : V → St → Prop} (h : Q (.bool true) σ) : CallV c (.bi "isinstance") [.str l, .ty "str"] [] [] σ Q := fun s fu us ku R hf hus hku => by
  cases hf; cases hku
  obtain ⟨y, ys, rfl, ⟨t, rfl⟩, y2, ys2, rfl, hy2, hys⟩ := hus
  cases hys; cases hy2
  exact call_isinstance (isinstance_true (Tx := "str") F.isi_meta_str F.sub_str_str) ⟨rfl, ⟨.bool true, σ, rfl, R, .refl _, h⟩⟩
theorem CallV.isB {b : Array UInt8} {Q : V → St → Prop} (h : Q (.bool false) σ) : CallV c (.bi "isinstance") [.bytes b, .ty "str"] [] [] σ Q := fun s fu us ku R hf hus hku => by
  cases hf; cases hku
  obtain ⟨y, ys, rfl, ⟨t, rfl⟩, y2, ys2, rfl, hy2, hys⟩ := hus
  cases hys; cases hy2
  refine call_isinstance (S := fun _ R s => R (.ok (.ret (.bool false))) { s with toks := s.toks + 1 }) ?_ ⟨.bool false, σ, rfl, R.toks, .refl _, h⟩
  intro _ _ _ _ s hs
  obtain ⟨h, g, d, t, os⟩ := s
  exact isinstance_outer (isinstance_nested_false_bytes (by decide +kernel) F.isi_meta_str F.sub_bytes_str hs)
theorem CallV.append {a : Addr} {vs : List V} {v : V} {Q : V → St → Prop} (hH : σ.H a = some (.list vs)) (hl : vs.length ≤ 1000000) (h : Q .none ⟨σ.loc, σ.H.upd a (.list (vs ++ [v]))⟩) : CallV c (.bi "list.append") [.ref a, v] [] [] σ Q := fun s fu us ku R hf hus hku => by
  cases hf; cases hku
  obtain ⟨y, ys, rfl, hy, y2, ys2, rfl, hy2, hys⟩ := hus
  cases hys; cases hy
  obtain ⟨xs, hL, hr⟩ := (R.objs a _ hH).plainL
  refine list_append_plainL hL (fun h' hL' hsb => ?_) (by rw [List.size_toArray, hr.length, sizeLine_eq]; omega)
  obtain ⟨R', e'⟩ := R.self (h' := h') (t := s.toks) hH (fun C fs e => by cases e) (o' := .list (vs ++ [v])) (fun C fs e => by cases e) hsb fun ev =>
    PlainL.or hL' (xs := xs ++ [y2]) (by simp) ((hr.evo ev).append ⟨y2, [], rfl, hy2.evo ev, rfl⟩)
  exact ⟨.none, _, rfl, R', e', h⟩
theorem Meth.append {a : Addr} {vs : List V} (hH : σ.H a = some (.list vs)) : Meth c σ (.ref a) .kappend (.bi "list.append") := fun s u pl Q R hv h => by
  cases hv
  obtain ⟨o, xs, n, h1, h2, h3, hdn, h4⟩ := R.objs a _ hH
  exact Calls.getMethod_list_append h1 h2 hdn (h _ rfl)

end Mine

end
section
open PySem PySem.W PySem.Calls PyProof.Rows
set_option maxRecDepth 100000
set_option linter.all false
namespace Mine
variable {c : Cx} {σ : St}

/-! flat data as the library's data -/
noncomputable def V.pd : V → Option PyData
  | .none => some .none
  | .bool b => some (.bool b)
  | .int i => some (.int i)
  | .str l => if l.all (· < 0x110000) then some (.str ⟨l.toArray⟩) else Option.none
  | _ => Option.none
noncomputable def pds : List V → Option (List PyData)
  | [] => some []
  | v :: vs => match v.pd, pds vs with
    | some d, some ds => some (d :: ds)
    | _, _ => none
theorem V.pd_reads {h : Heap} {v : V} {u : Value} {d : PyData} (r : VR h v u) (e : v.pd = some d) : Reads h u d [] ∧ d.canLay0 = true ∧ d.depth = 0 := by
  cases v <;> simp only [V.pd] at e <;> first | cases e | skip
  · cases r; exact ⟨.none, rfl, rfl⟩
  · cases r; exact ⟨.bool _, rfl, rfl⟩
  · obtain ⟨t, rfl⟩ := r; exact ⟨.int _ _, rfl, rfl⟩
  · obtain ⟨t, rfl⟩ := r
    split at e
    · rename_i hl
      cases e
      refine ⟨.str _ _, ?_, rfl⟩
      unfold PyData.canLay0 PyData.strOk
      simpa using hl
    · cases e
theorem pds_reads {h : Heap} : ∀ {vs : List V} {us : List Value} {ds : List PyData}, VRs h vs us → pds vs = some ds → ReadsAll h us ds [] ∧ PyData.canLayAll0 ds = true ∧ PyData.depthAll ds = 0
  | [], us, ds, r, e => by cases r; cases e; exact ⟨.nil, rfl, rfl⟩
  | v :: vs, us, ds, ⟨y, ys, e1, r, rs⟩, e => by
    subst e1
    unfold pds at e
    split at e
    · rename_i d ds' e1 e2
      cases e
      obtain ⟨a1, a2, a3⟩ := V.pd_reads r e1
      obtain ⟨b1, b2, b3⟩ := pds_reads rs e2
      exact ⟨.cons a1 b1, by simp [PyData.canLayAll0, a2, b2], by simp [PyData.depthAll, a3, b3]⟩
    · cases e
theorem tup_reads {h : Heap} {vs : List V} {u : Value} {ds : List PyData} (r : VR h (.tup vs) u) (e : pds vs = some ds) : Reads h u (.tuple ds) [] ∧ (PyData.tuple ds).canLay0 = true ∧ (PyData.tuple ds).depth = 1 := by
  obtain ⟨a, xs, rfl, ⟨o, g1, g2, n, g3⟩, hr⟩ := r
  obtain ⟨b1, b2, b3⟩ := pds_reads hr e
  exact ⟨.tuple g1 g2 g3 (by simpa using b1), b2, by show PyData.depthAll ds + 1 = 1; rw [b3]⟩
/-- two tuples of the same flat data -/
theorem Cmp.neSelf {vs : List V} {ds : List PyData} (e : pds vs = some ds) : Cmp .NotEq (.tup vs) (.tup vs) false := fun _ _ A _ s _ _ _ hu h1 h2 h => by
  obtain ⟨a1, a2, a3⟩ := tup_reads h1 e
  obtain ⟨b1, b2, b3⟩ := tup_reads h2 e
  refine PySem.SeqAt.compareNe_reads a1 b1 a2 b2 (by rw [a3]; show A.units + 1 < 9900; omega) ?_
  rw [PySem.SeqAt.eqv_refl _ a2]
  exact h s.toks

theorem strsAre {h : Heap} : ∀ {ls : List (List Nat)} {us : List Value}, VRs h (ls.map V.str) us → StrsAre us (ls.map fun l => ⟨l.toArray⟩)
  | [], us, r => by cases r; exact .nil
  | l :: ls, us, ⟨y, ys, e1, ⟨t, e2⟩, rs⟩ => by subst e1; cases e2; exact .cons _ t (strsAre rs)
theorem any_strs (l : List Nat) (ls : List (List Nat)) : (ls.map fun l => (⟨l.toArray⟩ : Str)).any (· == ⟨l.toArray⟩) = decide (l ∈ ls) := by
  induction ls with
  | nil => rfl
  | cons x r ih =>
    rw [List.map_cons, List.any_cons, ih, str_eq_iff]
    by_cases h : x = l
    · subst h; simp
    · have : l ≠ x := fun e => h e.symm
      simp [h, this]
theorem Cmp.inT {l : List Nat} {ls : List (List Nat)} : Cmp .In (.str l) (.tup (ls.map .str)) (decide (l ∈ ls)) := fun _ _ _ _ s _ _ _ hu ⟨t, e1⟩ ⟨a, xs, e2, ht, hr⟩ h => by
  subst e1 e2
  refine in_tuple_strs ht (by simpa using strsAre hr) ?_
  rw [any_strs]
  exact h s.toks
theorem Cmp.notInS {n : Nat} {l : List Nat} {b : Bool} (e : Txt.contains ⟨l.toArray⟩ ⟨#[n]⟩ = b) : Cmp .NotIn (.str [n]) (.str l) (!b) := fun _ _ _ _ s _ _ _ hu ⟨t, e1⟩ ⟨t2, e2⟩ h => by
  subst e1 e2
  refine SB.notContains ?_
  have q := h s.toks
  rw [← e] at q
  exact q
theorem Cmp.inS {n : Nat} {l : List Nat} {b : Bool} (e : Txt.contains ⟨l.toArray⟩ ⟨#[n]⟩ = b) : Cmp .In (.str [n]) (.str l) b := fun _ _ _ _ s _ _ _ hu ⟨t, e1⟩ ⟨t2, e2⟩ h => by
  subst e1 e2
  refine SB.contains ?_
  have q := h s.toks
  rw [← e] at q
  exact q
noncomputable def STOP1 : List Nat := [34, 10]
noncomputable def STOP2 : List Nat := [32, 9, 13, 10, 59, 40, 41, 34]
noncomputable def STOP3 : List Nat := [13, 10]
theorem stop_ok : (List.range 256).all (fun n => [STOP1, STOP2, STOP3].all fun l => Txt.contains ⟨l.toArray⟩ ⟨#[n]⟩ == l.contains n) = true := by decide +kernel
theorem stop_at {n : Nat} (hn : n < 256) {l : List Nat} (hl : l ∈ [STOP1, STOP2, STOP3]) : Txt.contains ⟨l.toArray⟩ ⟨#[n]⟩ = l.contains n := by
  have := List.all_eq_true.mp stop_ok n (List.mem_range.mpr hn)
  exact beq_iff_eq.mp (List.all_eq_true.mp this l hl)

/-! a minus ahead of a number -/
theorem W.neg {i : Int} {k : Nat} {p pos : Pos} {Q : V → St → Prop} (h : Q (.int (-i)) σ) : WV c (.UnaryOp .USub (.Constant (.int i) k p) pos) σ Q := fun s R =>
  UnaryOp_ (wpAny_Constant_int (PyProof.Rows.neg_int ⟨.int (-i), σ, ⟨_, rfl⟩, R.toks, .refl _, h⟩))

end Mine

end
section
open PySem PySem.W PySem.Calls PyProof.Rows
set_option maxRecDepth 100000
set_option linter.all false
namespace Mine
variable {c : Cx} {σ : St}

theorem CallV.defK {k : Nat} {K₀ : Frag} (hK : c.K = K₀) (K : c.Ok) (hc : c.Calls (k + 1)) {f : Addr} {fd : FuncData} {body : List Stmt} {vs kv : List V} {kn : List Str} {locs : List (N × V)} {Q : V → St → Prop}
    (D : DefAt K₀ f fd body) (B : Binds K₀ fd vs kn kv locs)
    (hb : ∀ c' : Cx, c'.Ok → c'.Calls k → c'.K = K₀ → c'.base = c.base → c'.X = c.X → c'.env.scope = fd.scope → WSs c' body ⟨locs, σ.H⟩ (retK σ.loc Q)) : CallV c (.ref f) vs kn kv σ Q := by
  subst hK; exact CallV.def K hc D B hb
theorem CallV.clsK {k : Nat} {K₀ : Frag} (hK : c.K = K₀) (K : c.Ok) (hc : c.Calls (k + 1)) {C fI : Addr} {fd : FuncData} {body : List Stmt} {vs kv : List V} {kn : List Str} {locs : Addr → List (N × V)} {Q : V → St → Prop}
    (hI : INITS.contains (C, fI) = true) (D : DefAt K₀ fI fd body) (B : ∀ a, Binds K₀ fd (.ref a :: vs) kn kv (locs a))
    (hb : ∀ a, σ.H a = none → ∀ c' : Cx, c'.Ok → c'.Calls k → c'.K = K₀ → c'.base = c.base → c'.X = c.X → c'.env.scope = fd.scope → WSs c' body ⟨locs a, σ.H.upd a (.inst C [])⟩ (retK σ.loc fun v σ' => v = .none ∧ Q (.ref a) σ')) : CallV c (.ref C) vs kn kv σ Q := by
  subst hK; exact CallV.cls K hc hI D B hb

/-! how arguments come in -/
theorem locR_zip {h : Heap} : ∀ {ns : List N} {vs : List V} {us : List Value}, ns.length = vs.length → VRs h vs us → LocR h (ns.zip vs) (fun x => ((ns.map nm).zip us).lookup x)
  | [], vs, us, _, _ => fun n v e => by cases e
  | n :: ns, v :: vs, us, hl, ⟨y, ys, e1, r, rs⟩ => fun m w e => by
    subst e1
    simp only [List.zip_cons_cons, List.map_cons] at e ⊢
    unfold lk at e
    by_cases hmn : m = n
    · subst hmn
      simp only [if_true, Option.some.injEq] at e
      subst e
      exact ⟨y, by simp [List.lookup_cons], r⟩
    · simp only [hmn, if_false] at e
      obtain ⟨u, hu, hr⟩ := locR_zip (by simpa using hl) rs m w e
      refine ⟨u, ?_, hr⟩
      rw [List.lookup_cons]
      have : (nm m == nm n) = false := by rw [nm_beq]; simpa using hmn
      rw [this]
      exact hu
  | _ :: _, [], _, hl, _ => by simp at hl
theorem lookup_rev {l : List (Str × Value)} (h : (l.map (·.1)).Nodup) (x : Str) : l.reverse.lookup x = l.lookup x := by
  induction l with
  | nil => rfl
  | cons p r ih =>
    obtain ⟨y, u⟩ := p
    rw [List.map_cons, List.nodup_cons] at h
    rw [List.reverse_cons, List.lookup_append, ih h.2, List.lookup_cons]
    by_cases hxy : x = y
    · subst hxy
      have : r.lookup x = none := by
        rw [List.lookup_eq_none_iff]
        intro q hq
        have : q.1 ≠ x := fun e => h.1 (List.mem_map.mpr ⟨q, hq, e⟩)
        simpa using fun e => this e.symm
      simp [this]
    · have hb : (x == y) = false := by simpa using hxy
      simp only [List.lookup_cons, hb]
      cases r.lookup x <;> simp [hb]
theorem len1 {us : List Value} (h : us.length = 1) : ∃ a, us = [a] := by
  match us, h with
  | [a], _ => exact ⟨a, rfl⟩
theorem len2 {us : List Value} (h : us.length = 2) : ∃ a b, us = [a, b] := by
  match us, h with
  | [a, b], _ => exact ⟨a, b, rfl⟩
theorem len3 {us : List Value} (h : us.length = 3) : ∃ a b d, us = [a, b, d] := by
  match us, h with
  | [a, b, d], _ => exact ⟨a, b, d, rfl⟩
theorem len5 {us : List Value} (h : us.length = 5) : ∃ a b d e f, us = [a, b, d, e, f] := by
  match us, h with
  | [a, b, d, e, f], _ => exact ⟨a, b, d, e, f, rfl⟩

theorem upd_same {H : Hp} {a : Addr} {o : O} : (H.upd a o) a = some o := by simp [Hp.upd]
theorem upd_ne {H : Hp} {a b : Addr} {o : O} (h : b ≠ a) : (H.upd a o) b = H b := by simp [Hp.upd, h]
end Mine

end
section
open PySem PySem.W PySem.Calls PyProof.Rows
set_option maxRecDepth 100000
set_option linter.all false
namespace Mine
variable {c : Cx} {σ : St}
/-! what follows is hidden while a statement is walked: goals stay small -/
/-! kinds of names, by N -/
noncomputable def lkN (l : List (N × NameKind)) (n : N) : Option NameKind := match l with
  | [] => none
  | p :: r => if n = p.1 then some p.2 else lkN r n
inductive KNl : List (Str × NameKind) → List (N × NameKind) → Prop
  | nil : KNl [] []
  | cons {n : N} {k : NameKind} {a : List (Str × NameKind)} {b : List (N × NameKind)} (h : KNl a b) : KNl ((nm n, k) :: a) ((n, k) :: b)
theorem KNl.look {a : List (Str × NameKind)} {b : List (N × NameKind)} (h : KNl a b) {n : N} {k : NameKind} (e : lkN b n = some k) : a.lookup (nm n) = some k := by
  induction h with
  | nil => cases e
  | cons h ih =>
    rename_i m k' a b
    unfold lkN at e
    rw [List.lookup_cons, nm_beq]
    by_cases q : n = m
    · subst q; simp at e ⊢; exact e
    · have : (n == m) = false := by simpa using q
      simp only [q, if_false] at e
      rw [this]
      exact ih e
noncomputable def KN (env : Env) (ks : List (N × NameKind)) : Prop := KNl env.scope.names ks
theorem KN.at {env : Env} {ks : List (N × NameKind)} (h : KN env ks) {n : N} {k : NameKind} (e : lkN ks n = some k) : env.kindOf (nm n) = some k := KNl.look h e
end Mine

end
section
open PySem PySem.W PySem.Calls PyProof.Rows
set_option maxRecDepth 100000
set_option linter.all false
namespace Mine
variable {c : Cx} {σ : St}
/-- the numbers below a bound, as the program's values -/
noncomputable abbrev ltV (r : Int) : Value → Bool := fun v => match v with | .int i _ => decide (i < r) | _ => false
theorem vrs_nat {h : Heap} : ∀ {ls : List Nat} {us : List Value}, VRs h (ls.map fun n : Nat => V.int (n : Int)) us → ∀ r : Int, VRs h ((ls.filter fun y : Nat => decide ((y : Int) < r)).map fun n : Nat => V.int (n : Int)) (us.filter (ltV r))
  | [], us, e, r => by cases e; rfl
  | n :: ls, us, ⟨y, ys, e1, ⟨t, e2⟩, rs⟩, r => by
    subst e1 e2
    have ih := vrs_nat rs r
    by_cases q : (n : Int) < r
    · have q' : decide ((n : Int) < r) = true := by simpa using q
      simp only [List.filter_cons, ltV, q', if_true, List.map_cons]
      exact ⟨_, _, rfl, ⟨t, rfl⟩, ih⟩
    · have q' : decide ((n : Int) < r) = false := by simpa using q
      simp only [List.filter_cons, ltV, q', Bool.false_eq_true, if_false]
      exact ih
theorem paired_eq {l1 l2 : List Value} (h : Paired (fun v y => v = y) l1 l2) : l1 = l2 := by
  induction h with
  | nil => rfl
  | cons a _ ih => rw [a, ih]
theorem closure_read {env : Env} {ca : Addr} {a b : Str} (hc : env.cells.lookup (nm .kread) = some ca) : closureFor ⟨.function, [(a, .local), (b, .local), (nm .kread, .free)], false, false, []⟩ env = pure [(nm .kread, ca)] := by
  have h : cellOf env (nm .kread) = pure ca := by unfold cellOf; rw [hc]
  have b1 : (NameKind.local == NameKind.free) = false := rfl
  have b2 : (NameKind.free == NameKind.free) = true := rfl
  simp only [closureFor, List.forIn_cons, List.forIn_nil, b1, b2, Bool.false_eq_true, if_false, if_true, h]
  rfl
theorem oneTest {M : Model} {A : Around} {E : Value → Shared → Prop} {s : Shared} {T : Expr → Sem Bool} {e : Expr} {Q : Bool → Shared → Prop} (h : wpAny M A (T e) Q E s) :
    wpAny M A (forIn [e] true fun c r => if r = true then do let ok ← T c; pure (ForInStep.yield ok) else pure (ForInStep.yield r)) Q E s := by
  simp only [List.forIn_cons, List.forIn_nil, if_true]
  refine wpAny_bind (wpAny_bind (wpAny_mono h (fun b s' q => ?_) fun _ _ x => x))
  exact wpAny_pure (wpAny_pure q)
theorem W.compLt (K : c.Ok) (hh : c.A.handled = none) (hu : c.A.units < 9800) {pos px p1 p2 p3 p4 p5 : Pos} {scope : Scope} {la ca : Addr} {ls : List Nat} {r : Int} {Q : V → St → Prop}
    (hkl : c.env.kindOf (nm .klines) = some .local) (hl : lk σ.loc .klines = some (.ref la)) (hH : σ.H la = some (.list (ls.map fun n : Nat => V.int (n : Int))))
    (hkr : c.env.kindOf (nm .kread) = some .cell) (hc : c.env.cells.lookup (nm .kread) = some ca) (hC : σ.H ca = some (.cell (some (.int r)))) (hsz : ls.length ≤ 1000)
    (hsc : scope = ⟨.function, [(Str.ofString ".0", .local), (nm .kend, .local), (nm .kread, .free)], false, false, []⟩)
    (h : ∀ D, σ.H D = none → Q (.ref D) ⟨σ.loc, σ.H.upd D (.list ((ls.filter fun y : Nat => decide ((y : Int) < r)).map fun n : Nat => V.int (n : Int)))⟩) :
    WV c (.ListComp (.Name (nm .kend) p1) [⟨.Name (nm .kend) px, .Name (nm .klines) p2, [.Compare (.Name (nm .kend) p3) [.Lt] [.Name (nm .kread) p4] p5], 0⟩] scope pos) σ Q := fun s R => by
  subst hsc
  have hend : ((Str.ofString ".0" == nm .kend) = false) := by decide +kernel
  have hend' : ((nm .kend == Str.ofString ".0") = false) := by decide +kernel
  have hrd0 : ((nm .kread == Str.ofString ".0") = false) := by decide +kernel
  have hrd1 : ((nm .kread == nm .kend) = false) := by decide +kernel
  have hrd2 : ((nm .kread == nm .kread) = true) := by decide +kernel
  have hnd : ((nm .kend == nm .kend) = true) := by decide +kernel
  have hx : ([(Str.ofString ".0", .local), (nm .kend, .local), (nm .kread, .free)] : List (Str × NameKind)).lookup (nm .kend) = some .local := by
    simp only [List.lookup_cons, hend', hnd]
  have hfree : ∀ cl C, Env.kindOf (compEnvC ⟨.function, [(Str.ofString ".0", .local), (nm .kend, .local), (nm .kread, .free)], false, false, []⟩ cl C c.env) (nm .kread) = some .free ∨
      Env.kindOf (compEnvC ⟨.function, [(Str.ofString ".0", .local), (nm .kend, .local), (nm .kread, .free)], false, false, []⟩ cl C c.env) (nm .kread) = some .cell := fun cl C => by
    unfold Env.kindOf compEnvC relabel
    dsimp only
    simp only [List.map_cons, List.map_nil]
    rw [K.kind, hkr]
    have b1 : (NameKind.local == NameKind.free) = false := rfl
    have b2 : (NameKind.free == NameKind.free) = true := rfl
    have b3 : (ScopeKind.function == ScopeKind.function) = true := rfl
    have b4 : (some NameKind.cell == some NameKind.cell) = true := rfl
    simp only [b1, b2, b3, b4, Bool.false_and, Bool.and_self, Bool.true_and, Bool.false_eq_true, if_false, if_true, List.lookup_cons, hrd0, hrd1, hrd2]
    simp
  have hloc : ∀ cl C, Env.kindOf (compEnvC ⟨.function, [(Str.ofString ".0", .local), (nm .kend, .local), (nm .kread, .free)], false, false, []⟩ cl C c.env) (nm .kend) = some .local := fun cl C => lookup_relabel_local hx
  refine wpAny_ListComp_free (cl := [(nm .kread, ca)]) (ltV r) (fun v y => v = y) (closure_read hc) (by intro y hy; simp at hy; rcases hy with rfl | rfl | rfl <;> simp) rfl
    (by
      intro y hy hl
      simp at hy
      rcases hy with rfl | rfl | rfl
      · simp [List.lookup_cons]
      · exact hx
      · cases hl) hx ?_ (by intro _; with_unfolding_all rfl)
  refine wpAny_mono (W.nameL K (Q := fun v σ' => v = .ref la ∧ σ' = σ) hkl hl ⟨rfl, rfl⟩ s R) (fun xv s₁ ⟨v, σ₁, h1, R1, e1, ev, eσ⟩ => ?_) fun _ _ e => e
  subst ev eσ
  cases h1
  obtain ⟨xs, hL, hr⟩ := (R1.objs la _ hH).isList
  obtain ⟨oc, hoc, uc, hcd, huc⟩ := R1.objs ca _ hC
  obtain ⟨tc, rfl⟩ := huc
  have hxl : xs.length = ls.length := by rw [hr.length, List.length_map]
  refine wpAny_pyIter_list hL ?_
  obtain ⟨ol, hol, hol2⟩ := id hL
  have hlt : la < s₁.heap.objs.size := Heap.lt_size hol
  have hne : la ≠ s₁.heap.objs.size := Nat.ne_of_lt hlt
  have kp : ∀ b o, s₁.heap.get? b = some o → (s₁.heap.push { cls := .type "list_iterator", data := .fields #[.ref la, .int 0 0] }).get? b = some o := fun b o e => Heap.get?_push_of_some _ e
  refine ⟨s₁.heap.objs.size, _, _, _, _, _, rfl, Walks.list hh _ la hne xs.toArray, by rw [List.size_toArray, hxl, sizeLine_eq]; omega,
    ⟨⟨_, Heap.get?_push_size _ rfl, rfl, rfl⟩, ol, kp _ _ hol, hol2⟩, ?_, ?_, ?_⟩
  · intro b hb
    rw [Heap.size_push]
    simp only [List.mem_cons, List.not_mem_nil, or_false] at hb
    rcases hb with rfl | rfl
    · exact Nat.lt_succ_self _
    · exact Nat.lt_succ_of_lt hlt
  · have hval : ∀ (i : Nat) (v : Value), xs.toArray[i]? = some v → ∃ (n : Int) (t : Tok), v = Value.int n t := fun i v e => by
      have e' : xs[i]? = some v := by simpa using e
      have hi : i < (ls.map fun n : Nat => V.int (n : Int)).length := by rw [← hr.length]; exact (List.getElem?_eq_some_iff.mp e').1
      obtain ⟨u, hu, hru⟩ := hr.get (i := i) (List.getElem?_eq_getElem hi)
      rw [e'] at hu; cases hu
      rw [List.getElem_map] at hru
      obtain ⟨t, rfl⟩ := hru
      exact ⟨_, t, rfl⟩
    constructor
    · intro C i v s₃ m₃ E' hC' hP hn hm hk htk
      obtain ⟨n, t, rfl⟩ := hval i v hP
      have hcc : s₃.heap.get? ca = some oc := by
        refine hk ca oc ?_ (kp _ _ hoc)
        simp only [List.mem_cons, List.not_mem_nil, or_false]
        exact Nat.ne_of_lt (Heap.lt_size hoc)
      refine oneTest (T := fun c' => isTrue c' _ (eval c' _)) ?_
      refine wpAny_isTrue_Compare1 (wpAny_Name (wpAny_loadName_local rfl (hloc _ _) hn hm ?_) (nm_debug _)) (by with_unfolding_all rfl)
      have fin : wpAny (model c.prog c.w) c.A (compareOp .Lt (Value.int n t) (Value.int r tc)) (fun c_1 s₄ => wpAny (model c.prog c.w) c.A (truthy c_1) (fun ok s₄ => ok = ltV r (Value.int n t) ∧ Keeps s₃ s₄) E' s₄) E' s₃ :=
        Cmp.ltI _ _ _ _ _ _ _ _ hu ⟨t, rfl⟩ ⟨tc, rfl⟩ fun t' => wpAny_truthy_bool ⟨rfl, _, _, rfl, fun _ _ e => e⟩
      rcases hfree [(nm .kread, ca)] C with hf | hf
      · exact wpAny_Name (wpAny_loadName_free rfl hf (by simp [compEnvC, hrd2]) ⟨oc, hcc, hcd⟩ fin (by decide +kernel)) (nm_debug _)
      · exact wpAny_Name (wpAny_loadName_cell rfl hf (by simp [compEnvC, hrd2]) ⟨oc, hcc, hcd⟩ fin) (nm_debug _)
    · intro C i v s₃ m₃ E' hC' hP hp hn hm hk htk
      exact wpAny_Name (wpAny_loadName_local rfl (hloc _ _) hn hm ⟨rfl, s₃.heap, s₃.toks, rfl, fun b o e => e⟩) (nm_debug _)
  · intro D h' tk ys vs hD hLD hPl hlen hP hF hk
    have hvs : vs = xs := by
      apply List.ext_getElem?
      intro j
      by_cases hj : j < vs.length
      · have q := hP j _ (List.getElem?_eq_getElem hj)
        rw [List.getElem?_eq_getElem hj]
        simpa using q.symm
      · rw [List.getElem?_eq_none (by omega), List.getElem?_eq_none (by have : vs.length = xs.length := by simpa using hlen
                                                                        omega)]
    subst hvs
    have hys := paired_eq hF
    have k0 : ∀ b o, s₁.heap.get? b = some o → h'.get? b = some o := fun b o e => hk b o (by
      simp only [List.mem_cons, List.not_mem_nil, or_false]
      exact Nat.ne_of_lt (Heap.lt_size e)) (kp b o e)
    have hD1 : s₁.heap.get? D = none := by
      cases q : s₁.heap.get? D with
      | none => rfl
      | some o => rw [kp _ _ q] at hD; cases hD
    obtain ⟨ap, hap⟩ := hPl
    have hv := vrs_nat hr r
    rw [hys] at hv
    obtain ⟨R', e', hn'⟩ := R1.alloc (h' := h') (t := tk) D (.list ((ls.filter fun y : Nat => decide ((y : Int) < r)).map fun n : Nat => V.int (n : Int))) k0 hD1
      ⟨_, ys.toList, ap, hap, rfl, by simp, rfl, hv.evo (.of_keep k0)⟩ (fun ob d q1 q2 => by rw [hap] at q1; cases q1; cases q2)
    exact ⟨.ref D, _, rfl, R', e1.trans e', h D hn'⟩
end Mine

end
section
open PySem PySem.W PySem.Calls PyProof.Rows
set_option maxRecDepth 100000
set_option linter.all false
namespace Mine

/-! what the top has laid, as far as the walks look at it: bodies, parameters and scopes are read off the row's program -/
noncomputable def stAt (l : List Stmt) (i : Nat) : Stmt := l.getD i (.Pass default)
noncomputable def top (i : Nat) : Stmt := stAt PySem.Challenge.pw_ji0023_01.main.body i
noncomputable def inCls : Stmt → Nat → Stmt
  | .ClassDef _ _ _ body _ _ _ _ _ _ _, i => stAt body i
  | s, _ => s
noncomputable def fnA : Stmt → Arguments
  | .FunctionDef _ a _ _ _ _ _ _ _ _ => a
  | _ => ⟨[], [], none, [], [], none, []⟩
noncomputable def fnB : Stmt → List Stmt
  | .FunctionDef _ _ b _ _ _ _ _ _ _ => b
  | _ => []
noncomputable def fnS : Stmt → Scope
  | .FunctionDef _ _ _ _ _ _ s _ _ _ => s
  | _ => ⟨.module, [], false, false, []⟩
noncomputable abbrev sq (s : String) : Str := Str.ofString s
noncomputable abbrev vs (s : String) (t : Nat) : Value := .str (Str.ofString s) t
noncomputable abbrev de (P : Params) (s : String) (t : Nat) (v : Value) : DictEntry := ⟨PyData.keyHash P (Str.ofString s), .str (Str.ofString s) t, v⟩
noncomputable def fnD (st : Stmt) (n q : String) (d : Value) (m : String) (mt : Nat) (code : Addr) : FuncData :=
  { name := Str.ofString n, qualname := Str.ofString q, params := fnA st, body := .stmts (fnB st), scope := fnS st, globals := 3, closure := [], defaults := d, kwdefaults := .none, pyModule := .str (Str.ofString m) mt, code := .ref code }
noncomputable abbrev fnO (fd : FuncData) : Obj := { cls := .type "function", data := .func fd }
noncomputable def fd74 : FuncData := fnD (inCls (top 8) 0) "__init__" "_Text.__init__" .none "dns.tokenizer" 248 73
noncomputable def fd81 : FuncData := fnD (inCls (top 8) 1) "read" "_Text.read" .none "dns.tokenizer" 248 80
noncomputable def fd115 : FuncData := fnD (inCls (top 17) 0) "__init__" "Token.__init__" (.ref 108) "dns.tokenizer" 248 114
noncomputable def fd136 : FuncData := fnD (inCls (top 17) 3) "is_whitespace" "Token.is_whitespace" .none "dns.tokenizer" 248 135
noncomputable def fd157 : FuncData := fnD (inCls (top 17) 6) "is_comment" "Token.is_comment" .none "dns.tokenizer" 248 156
noncomputable def fd228 : FuncData := fnD (inCls (top 18) 0) "__init__" "Tokenizer.__init__" (.ref 221) "dns.tokenizer" 248 227
noncomputable def fd235 : FuncData := fnD (inCls (top 18) 1) "_get_char" "Tokenizer._get_char" .none "dns.tokenizer" 248 234
noncomputable def fd242 : FuncData := fnD (inCls (top 18) 2) "where" "Tokenizer.where" .none "dns.tokenizer" 248 241
noncomputable def fd249 : FuncData := fnD (inCls (top 18) 3) "_unget_char" "Tokenizer._unget_char" .none "dns.tokenizer" 248 248
noncomputable def fd256 : FuncData := fnD (inCls (top 18) 4) "skip_whitespace" "Tokenizer.skip_whitespace" .none "dns.tokenizer" 248 255
noncomputable def fd264 : FuncData := fnD (inCls (top 18) 5) "get" "Tokenizer.get" (.ref 257) "dns.tokenizer" 248 263
noncomputable def fd271 : FuncData := fnD (inCls (top 18) 6) "unget" "Tokenizer.unget" .none "dns.tokenizer" 248 270
noncomputable def fd465 : FuncData := fnD (top 23) "_law_row" "_law_row" .none "law_ji0023_01" 751 464
noncomputable def fd472 : FuncData := fnD (top 24) "_law_text" "_law_text" .none "law_ji0023_01" 751 471
noncomputable def fd479 : FuncData := fnD (top 25) "_law_body" "_law_body" .none "law_ji0023_01" 751 478
noncomputable def fd486 : FuncData := fnD (top 26) "_law_pieces" "_law_pieces" .none "law_ji0023_01" 751 485
noncomputable def fd493 : FuncData := fnD (top 27) "_law_past" "_law_past" .none "law_ji0023_01" 751 492
noncomputable def fd500 : FuncData := fnD (top 28) "_law_next" "_law_next" .none "law_ji0023_01" 751 499
noncomputable def fd507 : FuncData := fnD (top 29) "_law_full" "_law_full" .none "law_ji0023_01" 751 506
noncomputable def fd514 : FuncData := fnD (top 30) "_law_told" "_law_told" .none "law_ji0023_01" 751 513
noncomputable def fd519 : FuncData := fnD (top 31) "law" "law" .none "law_ji0023_01" 751 518
noncomputable def KK (P : Params) : Frag := [
  (3, { cls := .type "dict", data := .dict #[de P "__name__" 165 (vs "law_ji0023_01" 751), de P "__doc__" 166 (.none), de P "__package__" 167 (.none), de P "__loader__" 168 (.builtin "__main__.__loader__#opaque"), de P "__spec__" 169 (.none), de P "__annotations__" 170 (.ref 6), de P "__builtins__" 171 (.ref 4), de P "__file__" 173 (vs "/claim/cut.py" 172), de P "__cached__" 174 (.none), de P "_wall" 193 (.ref 21), de P "DNSException" 215 (.ref 31), de P "DnsSyntaxError" 231 (.ref 44), de P "UnexpectedEnd" 247 (.ref 56), de P "_DELIMITERS" 257 (.ref 59), de P "_QUOTING_DELIMITERS" 259 (.ref 60), de P "_Text" 298 (.ref 84), de P "EOF" 300 (.int 0 299), de P "EOL" 302 (.int 1 301), de P "WHITESPACE" 304 (.int 2 303), de P "IDENTIFIER" 306 (.int 3 305), de P "QUOTED_STRING" 308 (.int 4 307), de P "COMMENT" 310 (.int 5 309), de P "DELIMITER" 312 (.int 6 311), de P "UngetBufferFull" 328 (.ref 98), de P "Token" 458 (.ref 209), de P "Tokenizer" 750 (.ref 451), de P "LAW_ROW" 802 (.ref 456), de P "LAW_SIGNS" 827 (.ref 457), de P "LAW_LABELS" 831 (.ref 458), de P "_law_row" 840 (.ref 465), de P "_law_text" 849 (.ref 472), de P "_law_body" 862 (.ref 479), de P "_law_pieces" 878 (.ref 486), de P "_law_past" 887 (.ref 493), de P "_law_next" 904 (.ref 500), de P "_law_full" 912 (.ref 507), de P "_law_told" 921 (.ref 514), de P "law" 927 (.ref 519)] 38 }),
  (30, { cls := .type "dict", data := .dict #[de P "__module__" 203 (vs "dns.exception" 194), de P "__firstlineno__" 207 (.int 5 206), de P "__static_attributes__" 208 (.ref 29), de P "__weakref__" 210 (.ref 32), de P "__doc__" 211 (.none)] 3 }),
  (31, { cls := .type "type", data := .cls { name := sq "DNSException", bases := [.type "Exception"], mro := [.ref 31, .type "Exception", .type "BaseException", .type "object"], ns := 30, qualname := sq "DNSException", subclasses := [.ref 44, .ref 98] }, slots := #[some (.ref 22), none, some (vs "DNSException" 196), some (vs "DNSException" 204), some (.builtin "Exception.__new__"), some (.bool true)] }),
  (43, { cls := .type "dict", data := .dict #[de P "__module__" 223 (vs "dns.exception" 194), de P "__firstlineno__" 227 (.int 7 226), de P "__static_attributes__" 228 (.ref 42), de P "__doc__" 229 (.none)] 2 }),
  (44, { cls := .type "type", data := .cls { name := sq "DnsSyntaxError", bases := [.ref 31], mro := [.ref 44, .ref 31, .type "Exception", .type "BaseException", .type "object"], ns := 43, qualname := sq "DnsSyntaxError", subclasses := [.ref 56] }, slots := #[some (.ref 35), none, some (vs "DnsSyntaxError" 216), some (vs "DnsSyntaxError" 224), some (.builtin "Exception.__new__"), some (.bool true)] }),
  (55, { cls := .type "dict", data := .dict #[de P "__module__" 239 (vs "dns.exception" 194), de P "__firstlineno__" 243 (.int 9 242), de P "__static_attributes__" 244 (.ref 54), de P "__doc__" 245 (.none)] 2 }),
  (56, { cls := .type "type", data := .cls { name := sq "UnexpectedEnd", bases := [.ref 44], mro := [.ref 56, .ref 44, .ref 31, .type "Exception", .type "BaseException", .type "object"], ns := 55, qualname := sq "UnexpectedEnd" }, slots := #[some (.ref 47), none, some (vs "UnexpectedEnd" 232), some (vs "UnexpectedEnd" 240), some (.builtin "Exception.__new__"), some (.bool true)] }),
  (59, { cls := .type "tuple", data := .seq #[vs " " 250, vs "\t" 251, vs "\n" 252, vs ";" 253, vs "(" 254, vs ")" 255, vs "\"" 256] }),
  (60, { cls := .type "tuple", data := .seq #[vs "\"" 258] }),
  (73, { cls := .type "code", data := .fields #[vs "__init__" 272, vs "_Text.__init__" 273, vs "/claim/cut.py" 274, .int 16 0, .int 2 0, .int 0 0, .int 0 0, .int 3 0, .ref 68, .bool true, .int 181 0, .ref 69, .none, .ref 70, .ref 71, .ref 72, .int 277 0, .int 16 0, vs "/claim/cut.py" 278] }),
  (74, fnO fd74),
  (80, { cls := .type "code", data := .fields #[vs "read" 280, vs "_Text.read" 281, vs "/claim/cut.py" 282, .int 20 0, .int 2 0, .int 0 0, .int 0 0, .int 3 0, .ref 75, .bool true, .int 181 0, .ref 76, .none, .ref 77, .ref 78, .ref 79, .int 286 0, .int 20 0, vs "/claim/cut.py" 287] }),
  (81, fnO fd81),
  (83, { cls := .type "dict", data := .dict #[de P "__module__" 267 (vs "dns.tokenizer" 248), de P "__firstlineno__" 271 (.int 14 270), de P "__init__" 279 (.ref 74), de P "read" 288 (.ref 81), de P "__static_attributes__" 291 (.ref 82), de P "__dict__" 293 (.ref 85), de P "__weakref__" 295 (.ref 86), de P "__doc__" 296 (.none)] 4 }),
  (84, { cls := .type "type", data := .cls { name := sq "_Text", bases := [.type "object"], mro := [.ref 84, .type "object"], ns := 83, qualname := sq "_Text" }, slots := #[none, none, some (vs "_Text" 260), some (vs "_Text" 268), some (.builtin "object.__new__"), some (.bool true)] }),
  (97, { cls := .type "dict", data := .dict #[de P "__module__" 320 (vs "dns.tokenizer" 248), de P "__firstlineno__" 324 (.int 31 323), de P "__static_attributes__" 325 (.ref 96), de P "__doc__" 326 (.none)] 2 }),
  (98, { cls := .type "type", data := .cls { name := sq "UngetBufferFull", bases := [.ref 31], mro := [.ref 98, .ref 31, .type "Exception", .type "BaseException", .type "object"], ns := 97, qualname := sq "UngetBufferFull" }, slots := #[some (.ref 89), none, some (vs "UngetBufferFull" 313), some (vs "UngetBufferFull" 321), some (.builtin "Exception.__new__"), some (.bool true)] }),
  (108, { cls := .type "tuple", data := .seq #[vs "" 341, .bool false, .none] }),
  (114, { cls := .type "code", data := .fields #[vs "__init__" 342, vs "Token.__init__" 343, vs "/claim/cut.py" 344, .int 35 0, .int 5 0, .int 0 0, .int 0 0, .int 3 0, .ref 109, .bool true, .int 181 0, .ref 110, .none, .ref 111, .ref 112, .ref 113, .int 350 0, .int 35 0, vs "/claim/cut.py" 351] }),
  (115, fnO fd115),
  (135, { cls := .type "code", data := .fields #[vs "is_whitespace" 367, vs "Token.is_whitespace" 368, vs "/claim/cut.py" 369, .int 47 0, .int 1 0, .int 0 0, .int 0 0, .int 3 0, .ref 130, .bool true, .int 181 0, .ref 131, .none, .ref 132, .ref 133, .ref 134, .int 371 0, .int 47 0, vs "/claim/cut.py" 372] }),
  (136, fnO fd136),
  (156, { cls := .type "code", data := .fields #[vs "is_comment" 388, vs "Token.is_comment" 389, vs "/claim/cut.py" 390, .int 56 0, .int 1 0, .int 0 0, .int 0 0, .int 3 0, .ref 151, .bool true, .int 181 0, .ref 152, .none, .ref 153, .ref 154, .ref 155, .int 392 0, .int 56 0, vs "/claim/cut.py" 393] }),
  (157, fnO fd157),
  (208, { cls := .type "dict", data := .dict #[de P "__module__" 336 (vs "dns.tokenizer" 248), de P "__firstlineno__" 340 (.int 33 339), de P "__init__" 352 (.ref 115), de P "is_eof" 359 (.ref 122), de P "is_eol" 366 (.ref 129), de P "is_whitespace" 373 (.ref 136), de P "is_identifier" 380 (.ref 143), de P "is_quoted_string" 387 (.ref 150), de P "is_comment" 394 (.ref 157), de P "is_delimiter" 401 (.ref 164), de P "is_eol_or_eof" 408 (.ref 171), de P "__eq__" 416 (.ref 178), de P "__ne__" 424 (.ref 185), de P "__str__" 431 (.ref 192), de P "unescape" 438 (.ref 199), de P "unescape_to_bytes" 445 (.ref 206), de P "__static_attributes__" 450 (.ref 207), de P "__dict__" 452 (.ref 210), de P "__weakref__" 454 (.ref 211), de P "__doc__" 455 (.none), de P "__hash__" 456 (.none)] 5 }),
  (209, { cls := .type "type", data := .cls { name := sq "Token", bases := [.type "object"], mro := [.ref 209, .type "object"], ns := 208, qualname := sq "Token" }, slots := #[none, none, some (vs "Token" 329), some (vs "Token" 337), some (.builtin "object.__new__"), some (.bool true)] }),
  (221, { cls := .type "tuple", data := .seq #[.none] }),
  (227, { cls := .type "code", data := .fields #[vs "__init__" 471, vs "Tokenizer.__init__" 472, vs "/claim/cut.py" 473, .int 85 0, .int 3 0, .int 0 0, .int 0 0, .int 3 0, .ref 222, .bool true, .int 181 0, .ref 223, .none, .ref 224, .ref 225, .ref 226, .int 477 0, .int 85 0, vs "/claim/cut.py" 478] }),
  (228, fnO fd228),
  (234, { cls := .type "code", data := .fields #[vs "_get_char" 480, vs "Tokenizer._get_char" 481, vs "/claim/cut.py" 482, .int 105 0, .int 1 0, .int 0 0, .int 0 0, .int 3 0, .ref 229, .bool true, .int 181 0, .ref 230, .none, .ref 231, .ref 232, .ref 233, .int 485 0, .int 105 0, vs "/claim/cut.py" 486] }),
  (235, fnO fd235),
  (241, { cls := .type "code", data := .fields #[vs "where" 488, vs "Tokenizer.where" 489, vs "/claim/cut.py" 490, .int 127 0, .int 1 0, .int 0 0, .int 0 0, .int 3 0, .ref 236, .bool true, .int 181 0, .ref 237, .none, .ref 238, .ref 239, .ref 240, .int 492 0, .int 127 0, vs "/claim/cut.py" 493] }),
  (242, fnO fd242),
  (248, { cls := .type "code", data := .fields #[vs "_unget_char" 495, vs "Tokenizer._unget_char" 496, vs "/claim/cut.py" 497, .int 130 0, .int 2 0, .int 0 0, .int 0 0, .int 3 0, .ref 243, .bool true, .int 181 0, .ref 244, .none, .ref 245, .ref 246, .ref 247, .int 500 0, .int 130 0, vs "/claim/cut.py" 501] }),
  (249, fnO fd249),
  (255, { cls := .type "code", data := .fields #[vs "skip_whitespace" 503, vs "Tokenizer.skip_whitespace" 504, vs "/claim/cut.py" 505, .int 135 0, .int 1 0, .int 0 0, .int 0 0, .int 3 0, .ref 250, .bool true, .int 181 0, .ref 251, .none, .ref 252, .ref 253, .ref 254, .int 509 0, .int 135 0, vs "/claim/cut.py" 510] }),
  (256, fnO fd256),
  (257, { cls := .type "tuple", data := .seq #[.bool false, .bool false] }),
  (263, { cls := .type "code", data := .fields #[vs "get" 512, vs "Tokenizer.get" 513, vs "/claim/cut.py" 514, .int 145 0, .int 3 0, .int 0 0, .int 0 0, .int 3 0, .ref 258, .bool true, .int 181 0, .ref 259, .none, .ref 260, .ref 261, .ref 262, .int 524 0, .int 145 0, vs "/claim/cut.py" 525] }),
  (264, fnO fd264),
  (270, { cls := .type "code", data := .fields #[vs "unget" 527, vs "Tokenizer.unget" 528, vs "/claim/cut.py" 529, .int 232 0, .int 2 0, .int 0 0, .int 0 0, .int 3 0, .ref 265, .bool true, .int 181 0, .ref 266, .none, .ref 267, .ref 268, .ref 269, .int 532 0, .int 232 0, vs "/claim/cut.py" 533] }),
  (271, fnO fd271),
  (450, { cls := .type "dict", data := .dict #[de P "__module__" 466 (vs "dns.tokenizer" 248), de P "__firstlineno__" 470 (.int 83 469), de P "__init__" 479 (.ref 228), de P "_get_char" 487 (.ref 235), de P "where" 494 (.ref 242), de P "_unget_char" 502 (.ref 249), de P "skip_whitespace" 511 (.ref 256), de P "get" 526 (.ref 264), de P "unget" 534 (.ref 271), de P "get_int" 543 (.ref 279), de P "get_uint8" 550 (.ref 286), de P "get_uint16" 559 (.ref 294), de P "get_uint32" 568 (.ref 302), de P "get_uint48" 577 (.ref 310), de P "get_string" 585 (.ref 318), de P "get_bytes" 593 (.ref 326), de P "get_identifier" 600 (.ref 333), de P "get_remaining" 608 (.ref 341), de P "concatenate_remaining_identifiers" 616 (.ref 349), de P "as_name" 627 (.ref 357), de P "as_int" 637 (.ref 365), de P "as_uint8" 645 (.ref 372), de P "as_uint16" 655 (.ref 380), de P "as_uint32" 665 (.ref 388), de P "as_uint48" 675 (.ref 396), de P "as_string" 684 (.ref 404), de P "as_bytes" 693 (.ref 412), de P "as_identifier" 701 (.ref 419), de P "get_name" 711 (.ref 427), de P "get_eol_as_token" 718 (.ref 434), de P "get_eol" 725 (.ref 441), de P "get_ttl" 732 (.ref 448), de P "__static_attributes__" 743 (.ref 449), de P "__dict__" 745 (.ref 452), de P "__weakref__" 747 (.ref 453), de P "__doc__" 748 (.none)] 4 }),
  (451, { cls := .type "type", data := .cls { name := sq "Tokenizer", bases := [.type "object"], mro := [.ref 451, .type "object"], ns := 450, qualname := sq "Tokenizer" }, slots := #[none, none, some (vs "Tokenizer" 459), some (vs "Tokenizer" 467), some (.builtin "object.__new__"), some (.bool true)] }),
  (456, { cls := .type "tuple", data := .seq #[.int 34 753, .int 0 754, .int 13 755, .int 1 756, .int 14 757, .int 15 758, .int 9 759, .int 16 760, .int 21 761, .int 17 762, .int 19 763, .int 12 764, .int 18 765, .int 22 766, .int 10 767, .int 2 768, .int 11 769, .int 8 770, .int 3 771, .int 10 772, .int 4 773, .int 1 774, .int 7 775, .int 5 776, .int 0 777, .int 1 778, .int 2 779, .int 0 780, .int 6 781, .int 0 782, .int 1 783, .int 3 784, .int 4 785, .int 2 786, .int 1 787, .int 9 788, .int 4 789, .int 0 790, .int 132 791, .int 0 792, .int 0 793, .int 160 794, .int 0 795, .int 0 796, .int 0 797, .int 0 798, .int 1 799, .int 0 800, .int 0 801] }),
  (457, { cls := .type "tuple", data := .seq #[vs "a" 803, vs " " 804, vs "\n" 805, vs "(" 806, vs ")" 807, vs "\"" 808, vs ";" 809, vs "\\" 810, vs "\x0d" 811, vs "\t" 812, vs "1" 813, vs "7" 814, vs "e" 815, vs "\"a 1\"" 816, vs ";7\n" 817, vs "(a\n" 818, vs " )" 819, vs "\\\"" 820, vs "\x0d\n" 821, vs "\"\\\n\"" 822, vs "a" 823, vs " a" 824, vs ";(\"\x0d" 825, vs "\n\t" 826] }),
  (458, { cls := .type "tuple", data := .seq #[vs "<string>" 828, vs "zone one" 829, vs "" 830] }),
  (464, { cls := .type "code", data := .fields #[vs "_law_row" 832, vs "_law_row" 833, vs "/claim/cut.py" 834, .int 309 0, .int 1 0, .int 0 0, .int 0 0, .int 3 0, .ref 459, .bool true, .int 181 0, .ref 460, .none, .ref 461, .ref 462, .ref 463, .int 838 0, .int 309 0, vs "/claim/cut.py" 839] }),
  (465, fnO fd465),
  (471, { cls := .type "code", data := .fields #[vs "_law_text" 841, vs "_law_text" 842, vs "/claim/cut.py" 843, .int 314 0, .int 1 0, .int 0 0, .int 0 0, .int 3 0, .ref 466, .bool true, .int 181 0, .ref 467, .none, .ref 468, .ref 469, .ref 470, .int 847 0, .int 314 0, vs "/claim/cut.py" 848] }),
  (472, fnO fd472),
  (478, { cls := .type "code", data := .fields #[vs "_law_body" 850, vs "_law_body" 851, vs "/claim/cut.py" 852, .int 322 0, .int 3 0, .int 0 0, .int 0 0, .int 3 0, .ref 473, .bool true, .int 181 0, .ref 474, .none, .ref 475, .ref 476, .ref 477, .int 860 0, .int 322 0, vs "/claim/cut.py" 861] }),
  (479, fnO fd479),
  (485, { cls := .type "code", data := .fields #[vs "_law_pieces" 863, vs "_law_pieces" 864, vs "/claim/cut.py" 865, .int 345 0, .int 1 0, .int 0 0, .int 0 0, .int 3 0, .ref 480, .bool true, .int 181 0, .ref 481, .none, .ref 482, .ref 483, .ref 484, .int 876 0, .int 345 0, vs "/claim/cut.py" 877] }),
  (486, fnO fd486),
  (492, { cls := .type "code", data := .fields #[vs "_law_past" 879, vs "_law_past" 880, vs "/claim/cut.py" 881, .int 380 0, .int 3 0, .int 0 0, .int 0 0, .int 3 0, .ref 487, .bool true, .int 181 0, .ref 488, .none, .ref 489, .ref 490, .ref 491, .int 885 0, .int 380 0, vs "/claim/cut.py" 886] }),
  (493, fnO fd493),
  (499, { cls := .type "code", data := .fields #[vs "_law_next" 888, vs "_law_next" 889, vs "/claim/cut.py" 890, .int 384 0, .int 5 0, .int 0 0, .int 0 0, .int 3 0, .ref 494, .bool true, .int 181 0, .ref 495, .none, .ref 496, .ref 497, .ref 498, .int 902 0, .int 384 0, vs "/claim/cut.py" 903] }),
  (500, fnO fd500),
  (506, { cls := .type "code", data := .fields #[vs "_law_full" 905, vs "_law_full" 906, vs "/claim/cut.py" 907, .int 416 0, .int 2 0, .int 0 0, .int 0 0, .int 3 0, .ref 501, .bool true, .int 181 0, .ref 502, .none, .ref 503, .ref 504, .ref 505, .int 910 0, .int 416 0, vs "/claim/cut.py" 911] }),
  (507, fnO fd507),
  (513, { cls := .type "code", data := .fields #[vs "_law_told" 913, vs "_law_told" 914, vs "/claim/cut.py" 915, .int 422 0, .int 3 0, .int 0 0, .int 0 0, .int 3 0, .ref 508, .bool true, .int 181 0, .ref 509, .none, .ref 510, .ref 511, .ref 512, .int 919 0, .int 422 0, vs "/claim/cut.py" 920] }),
  (514, fnO fd514),
  (518, { cls := .type "code", data := .fields #[vs "law" 922, vs "law" 923, vs "/claim/cut.py" 924, .int 431 0, .int 1 0, .int 0 0, .int 0 0, .int 3 0, .ref 515, .bool true, .int 181 0, .ref 516, .none, .none, .none, .ref 517, .int 925 0, .int 431 0, vs "/claim/cut.py" 926] }),
  (519, fnO fd519)
  ]
noncomputable def KA : List Addr := [3, 30, 31, 43, 44, 55, 56, 59, 60, 73, 74, 80, 81, 83, 84, 97, 98, 108, 114, 115, 135, 136, 156, 157, 208, 209, 221, 227, 228, 234, 235, 241, 242, 248, 249, 255, 256, 257, 263, 264, 270, 271, 450, 451, 456, 457, 458, 464, 465, 471, 472, 478, 479, 485, 486, 492, 493, 499, 500, 506, 507, 513, 514, 518, 519]
theorem KK_at (P : Params) : KA = (KK P).map (·.1) := rfl

end Mine

end
section
open PySem PySem.W PySem.Calls PyProof.Rows Builtin Builtin._codecs
set_option maxRecDepth 100000
namespace Mine
theorem forIn_list {β : Type} {f : Nat → β → Sem (ForInStep β)} (S : Nat → β) (m : Nat) (hy : ∀ k, k < m → f k (S k) = pure (.yield (S (k + 1)))) (hd : ∀ k, f k (S m) = pure (.done (S m))) : ∀ (n k : Nat), k ≤ m → m ≤ k + n →
    (forIn (List.range' k n 1) (S k) f : Sem β) = pure (S m)
  | 0, k, h1, h2 => by
    have : k = m := by omega
    subst this
    rfl
  | n + 1, k, h1, h2 => by
    rw [List.range'_succ, List.forIn_cons]
    by_cases h : k = m
    · subst h
      rw [hd]; rfl
    · rw [hy k (by omega)]
      exact forIn_list S m hy hd n (k + 1) (by omega) (by omega)
theorem forIn_run {β : Type} {f : Nat → β → Sem (ForInStep β)} (S : Nat → β) (m n : Nat) (hm : m ≤ n) (hy : ∀ k, k < m → f k (S k) = pure (.yield (S (k + 1)))) (hd : ∀ k, f k (S m) = pure (.done (S m))) :
    (forIn [:n] (S 0) f : Sem β) = pure (S m) := by
  rw [Std.Legacy.Range.forIn_eq_forIn_range']
  have : [:n].size = n := by simp [Std.Legacy.Range.size]
  rw [this]
  exact forIn_list S m hy hd n 0 (Nat.zero_le _) (by omega)

noncomputable def enc (l : List Nat) : List UInt8 := l.flatMap Str.utf8Of
theorem enc_fold (l : List Nat) (acc : Array UInt8) : l.foldl (fun acc y => acc ++ (Str.utf8Of y).toArray) acc = acc ++ (enc l).toArray := by
  induction l generalizing acc with
  | nil => simp [enc]
  | cons a l ih => rw [List.foldl_cons, ih]; simp [enc, List.flatMap_cons]
theorem not_bad {n : Nat} (h : n < 256) : utf8Codec.bad n = false := by
  show (decide (0xD800 ≤ n) && decide (n ≤ 0xDFFF)) = false
  simp; omega
theorem enc_eq (id : String) (self : Value) (l : List Nat) (hl : ∀ n ∈ l, n < 256) (hlen : (enc l).length ≤ 1000000) : encodeNarrow id utf8Codec none self ⟨l.toArray⟩ = pure (enc l).toArray := by
  have e : encodeNarrow id utf8Codec none self ⟨l.toArray⟩ = (forIn [:(⟨l.toArray⟩ : Str).length] ((0 : Nat), (#[] : Array UInt8), ({} : Faults)) _ >>= fun r => pure r.2.1) := rfl
  rw [e]
  cases l with
  | nil =>
    refine (congrArg (fun z : Sem _ => z >>= fun r => pure r.2.1) (forIn_run (fun _ => ((0 : Nat), (#[] : Array UInt8), ({} : Faults))) 0 0 (Nat.le_refl _) (fun k hk => absurd hk (Nat.not_lt_zero k)) (fun k => ?_))).trans rfl
    dsimp only
    rw [if_neg (show ¬ ((#[] : Array UInt8).size > sizeLine) by decide)]
    rfl
  | cons a l =>
    have hsz : (⟨(a :: l).toArray⟩ : Str).length = l.length + 1 := by simp [Str.length]
    refine (congrArg (fun z : Sem _ => z >>= fun r => pure r.2.1) (forIn_run (fun k => if k = 0 then ((0 : Nat), (#[] : Array UInt8), ({} : Faults)) else (l.length + 1, (enc (a :: l)).toArray, {})) 1 (⟨(a :: l).toArray⟩ : Str).length (by rw [hsz]; omega) ?_ ?_)).trans rfl
    · intro k hk
      obtain rfl : k = 0 := by omega
      have h0 : ((⟨(a :: l).toArray⟩ : Str).cps.extract 0) = (a :: l).toArray := by simp
      have h1 : Array.findIdx? utf8Codec.bad (a :: l).toArray = none := by
        rw [Array.findIdx?_eq_none_iff]; intro n hn; rw [not_bad (hl n (by simpa using hn))]
      rw [if_pos rfl, if_neg (show ¬ (0 + 1 = 0) by decide)]
      dsimp only
      rw [if_neg (show ¬ ((#[] : Array UInt8).size > sizeLine) by decide)]
      show (if (!utf8Codec.bad a) = true then _ else _) = _
      rw [not_bad (hl a List.mem_cons_self)]
      rw [if_pos (by decide), h0, h1]
      show pure (ForInStep.yield (0 + (a :: l).toArray.size, Array.foldl _ _ ((a :: l).toArray.extract 0 (a :: l).toArray.size), _)) = _
      congr 2
      refine Prod.ext (by simp) (Prod.ext ?_ rfl)
      show Array.foldl _ _ _ = _
      rw [Array.extract_size]
      have := enc_fold (a :: l) #[]
      rw [List.foldl_toArray]
      exact this.trans (by simp)
    · intro k
      rw [if_neg (show ¬ (1 = 0) by decide)]
      dsimp only
      have hz : (enc (a :: l)).toArray.size ≤ sizeLine := by rw [List.size_toArray, sizeLine_eq]; omega
      rw [if_neg (show ¬ ((enc (a :: l)).toArray.size > sizeLine) by omega)]
      have hn : (⟨(a :: l).toArray⟩ : Str).cps[l.length + 1]? = none := by simp
      rw [hn]

theorem enc_lo {c : Nat} (h : c < 128) : Str.utf8Of c = [c.toUInt8] := if_pos h
theorem enc_hi {c : Nat} (h1 : 128 ≤ c) (h2 : c < 256) : Str.utf8Of c = [(0xC0 + c / 64).toUInt8, (0x80 + c % 64).toUInt8] := by
  unfold Str.utf8Of; rw [if_neg (by omega), if_pos (by omega)]
theorem lo_nat : ∀ c : Fin 128, (c.val.toUInt8).toNat = c.val := by decide
theorem hi_nat : ∀ c : Fin 256, 128 ≤ c.val → ((0xC0 + c.val / 64).toUInt8).toNat = 0xC0 + c.val / 64 ∧ ((0x80 + c.val % 64).toUInt8).toNat = 0x80 + c.val % 64 := by decide
theorem at_lo {b : Array UInt8} {p c : Nat} (hc : c < 128) (h : b[p]? = some c.toUInt8) : Bytes.utf8At b p = (.char c, p + 1) := by
  unfold Bytes.utf8At
  have e : (b.getD p 0).toNat = c := by rw [Array.getD_eq_getD_getElem?, h]; exact lo_nat ⟨c, hc⟩
  rw [e]
  dsimp only
  rw [if_pos hc]
theorem at_hi {b : Array UInt8} {p c : Nat} (h1 : 128 ≤ c) (h2 : c < 256) (ha : b[p]? = some (0xC0 + c / 64).toUInt8) (hb : b[p + 1]? = some (0x80 + c % 64).toUInt8) : Bytes.utf8At b p = (.char c, p + 2) := by
  obtain ⟨e1, e2⟩ := hi_nat ⟨c, h2⟩ h1
  dsimp only at e1 e2
  have e : (b.getD p 0).toNat = 0xC0 + c / 64 := by rw [Array.getD_eq_getD_getElem?, ha]; exact e1
  have hq : c / 64 = 2 ∨ c / 64 = 3 := by omega
  unfold Bytes.utf8At
  rw [e]
  dsimp only
  rw [if_neg (by omega), if_pos (by simp; omega)]
  dsimp only
  show (match (match b[p + 1]? with | none => _ | some x => if (decide (0x80 ≤ x.toNat) && decide (x.toNat ≤ 0xBF)) = true then (.ok ((0xC0 + c / 64) % 32 * 64 + x.toNat % 64) : Except (Nat × String) Nat) else _) with | .ok v => (Bytes.Piece.char v, p + 1 + 1) | .error (stop, reason) => (.bad p stop reason, stop)) = _
  rw [hb]
  dsimp only
  rw [e2, if_pos (by simp; omega)]
  dsimp only
  have : (0xC0 + c / 64) % 32 * 64 + (0x80 + c % 64) % 64 = c := by omega
  rw [this]
theorem at_enc {A B : List UInt8} {c : Nat} (hc : c < 256) : Bytes.utf8At (A ++ Str.utf8Of c ++ B).toArray A.length = (.char c, A.length + (Str.utf8Of c).length) := by
  by_cases h : c < 128
  · rw [enc_lo h]
    refine at_lo h ?_
    simp
  · rw [enc_hi (by omega) hc]
    refine at_hi (by omega) hc ?_ ?_
    · simp
    · simp
theorem u8_pos (c : Nat) : 1 ≤ (Str.utf8Of c).length := by
  unfold Str.utf8Of
  split
  · exact Nat.le_refl _
  · split
    · show 1 ≤ 2; omega
    · split
      · show 1 ≤ 3; omega
      · show 1 ≤ 4; omega
theorem enc_len (l : List Nat) : l.length ≤ (enc l).length := by
  induction l with
  | nil => exact Nat.le_refl _
  | cons a l ih =>
    have := u8_pos a
    simp only [enc, List.flatMap_cons, List.length_append, List.length_cons] at ih ⊢
    omega
theorem dec_eq (id : String) (l : List Nat) (hl : ∀ n ∈ l, n < 256) (hlen : (enc l).length ≤ 1000000) : runDecoder id utf8Decoder none true (enc l).toArray 0 [] = pure (l.toArray, (enc l).length) := by
  have e : runDecoder id utf8Decoder none true (enc l).toArray 0 [] = (forIn [:(enc l).toArray.size] ((0 : Nat), (#[] : Array Nat), ({ held := [] } : Faults)) _ >>= fun r => pure (r.2.1, r.1)) := rfl
  rw [e]
  refine (congrArg (fun z : Sem _ => z >>= fun r => pure (r.2.1, r.1)) (forIn_run (fun k => ((enc (l.take k)).length, (l.take k).toArray, ({ held := [] } : Faults))) l.length (enc l).toArray.size (by rw [List.size_toArray]; exact enc_len l) ?_ ?_)).trans ?_
  · intro k hk
    dsimp only
    have hsz : (l.take k).toArray.size ≤ sizeLine := by
      rw [List.size_toArray, List.length_take, sizeLine_eq]; have := enc_len l; omega
    rw [if_neg (show ¬ ((l.take k).toArray.size > sizeLine) by omega)]
    have hd : l = l.take k ++ l[k] :: l.drop (k + 1) := by rw [← List.drop_eq_getElem_cons hk, List.take_append_drop]
    have hE : enc l = enc (l.take k) ++ Str.utf8Of l[k] ++ enc (l.drop (k + 1)) := by
      conv => lhs; rw [hd]
      show (l.take k ++ l[k] :: l.drop (k + 1)).flatMap Str.utf8Of = _
      rw [List.flatMap_append, List.flatMap_cons, ← List.append_assoc]; rfl
    have h1 := u8_pos l[k]
    have hp : ¬ ((enc (l.take k)).length ≥ (enc l).toArray.size) := by
      rw [List.size_toArray, hE, List.length_append, List.length_append]; omega
    rw [if_neg hp]
    have hf : utf8Decoder.find true (enc l).toArray (enc (l.take k)).length = .text [l[k]] ((enc (l.take k)).length + (Str.utf8Of l[k]).length) := by
      show (match Bytes.utf8At (enc l).toArray (enc (l.take k)).length with | (.char c, nx1) => Found.char c nx1 | (.bad _ stop reason, _) => _) = _
      rw [hE, at_enc (hl _ (List.getElem_mem hk))]
      rfl
    rw [hf]
    dsimp only
    have ht : l.take (k + 1) = l.take k ++ [l[k]] := by rw [List.take_add_one, List.getElem?_eq_getElem hk]; rfl
    have he2 : enc (l.take k ++ [l[k]]) = enc (l.take k) ++ Str.utf8Of l[k] := by
      show List.flatMap _ _ = _
      rw [List.flatMap_append]; simp [enc]
    rw [ht, he2, List.length_append]
    simp only [List.append_toArray]
  · intro k
    dsimp only
    have hsz : (l.take l.length).toArray.size ≤ sizeLine := by
      rw [List.size_toArray, List.length_take, sizeLine_eq]; have := enc_len l; omega
    rw [if_neg (show ¬ ((l.take l.length).toArray.size > sizeLine) by omega)]
    rw [if_pos (by rw [List.take_length, List.size_toArray]; exact Nat.le_refl _)]
  · simp [List.take_length]
end Mine

end
section
open PySem PySem.W PySem.Calls PyProof.Rows Builtin Builtin._codecs
set_option maxRecDepth 100000
namespace Mine
variable {c : Cx} {σ : St}
theorem meets_enc {l : List Nat} {t : Tok} (hl : ∀ n ∈ l, n < 256) (hlen : (enc l).length ≤ 1000000) :
    Meets («str.encode» ⟨[.str ⟨l.toArray⟩ t], []⟩) (fun _ R s => R (.ok (.ret (.bytes (enc l).toArray s.toks))) { s with toks := s.toks + 1 }) := by
  refine .of_wp fun prog w A R s hS => ?_
  rw [encode_tree, encodeRoad_utf8, enc_eq _ _ l hl hlen]
  refine wpAny_bind ?_
  refine wpAny_bind (wpAny_pure ?_)
  exact wpAny_mkBytes (wpAny_pure ⟨_, rfl, hS⟩) (by rw [List.size_toArray, sizeLine_eq]; omega)
theorem CallV.encode {l : List Nat} {Q : V → St → Prop} (hl : ∀ n ∈ l, n < 256) (hlen : (enc l).length ≤ 1000000) (h : Q (.bytes (enc l).toArray) σ) : CallV c (.bi "str.encode") [.str l] [] [] σ Q := fun s fu us ku R hf hus hku => by
  cases hf; cases hku
  obtain ⟨y, ys, rfl, ⟨t, rfl⟩, hys⟩ := hus
  cases hys
  exact call_meets F.slot_str_encode (typeIs_str _ _ _) F.entry_str_encode (F.args_str_encode_1 _) (meets_enc hl hlen) ⟨.bytes (enc l).toArray, σ, ⟨_, rfl⟩, R.toks, .refl _, h⟩
theorem Meth.encode {l : List Nat} : Meth c σ (.str l) .kencode (.bi "str.encode") := fun s u pl Q R hv h => by
  obtain ⟨t, rfl⟩ := hv
  exact getMethod_builtin (typeIs_str _ _ _) F.plainAttrs_str F.slot_str_encode F.type_str_encode (fun _ e => nomatch e) (h _ rfl)
theorem entry0 {t : Tok} : «bytes.decode» ⟨[.bytes #[] t], []⟩ = (rule "bytes.decode.empty" >>= fun _ => retStr Str.empty) := by kernel_rfl
theorem meets_dec0 {t : Tok} : Meets («bytes.decode» ⟨[.bytes #[] t], []⟩) (fun _ R s => ∀ t' k, R (.ok (.ret (.str Str.empty t'))) { s with toks := k }) := by
  refine .of_wp fun prog w A R s hS => ?_
  rw [entry0]
  refine wpAny_bind (wpAny_rule ?_)
  refine wpAny_bind ?_
  exact wpAny_mkStr (wpAny_pure ⟨_, rfl, hS _ _⟩) (by decide)
theorem CallV.decode {l : List Nat} {Q : V → St → Prop} (hl : ∀ n ∈ l, n < 256) (hlen : (enc l).length ≤ 1000000) (h : Q (.str l) σ) : CallV c (.bi "bytes.decode") [.bytes (enc l).toArray] [] [] σ Q := fun s fu us ku R hf hus hku => by
  cases hf; cases hku
  obtain ⟨y, ys, rfl, ⟨t, rfl⟩, hys⟩ := hus
  cases hys
  have hsz := enc_len l
  cases he : enc l with
  | nil =>
    have : l = [] := by
      cases l with
      | nil => rfl
      | cons a l => rw [he] at hsz; simp at hsz
    subst this
    exact call_meets FB.slot_bytes_decode (typeIs_bytes _ _ _) FB.entry_bytes_decode (FB.args_bytes_decode_1 _) meets_dec0 (fun t' k => ⟨.str [], σ, ⟨t', rfl⟩, R.toks, .refl _, h⟩)
  | cons b bs =>
    refine KBd.decode (x := ⟨l.toArray⟩) (n := (enc l).length) (fun id => by rw [← he]; exact dec_eq id l hl hlen) (by show l.toArray.size ≤ _; rw [List.size_toArray]; omega) (fun t' k => ⟨.str l, σ, ⟨t', rfl⟩, R.toks, .refl _, h⟩)
theorem Meth.decode {b : Array UInt8} : Meth c σ (.bytes b) .kdecode (.bi "bytes.decode") := fun s u pl Q R hv h => by
  obtain ⟨t, rfl⟩ := hv
  exact KBd.method (h _ rfl)
end Mine

end
section
namespace Mine

/-! the reader, as a plain machine over the text x -/
structure T where
  at_ : Nat
  uch : Option (List Nat)
  ml : Nat
  q : Bool
  eof : Bool
  cr : Bool
  line : Nat
deriving DecidableEq

noncomputable def one (x : List Nat) (a : Nat) : List Nat := (x.drop a).take 1
noncomputable def getc (x : List Nat) (t : T) : List Nat × T :=
  match t.uch with
  | some c => (c, { t with uch := none })
  | none =>
    if t.eof then ([], t) else
    let c1 := one x t.at_
    let a1 := t.at_ + c1.length
    let c2 := if t.cr && c1 == [10] then one x a1 else c1
    let a2 := if t.cr && c1 == [10] then a1 + (one x a1).length else a1
    let k := c2 == [13] && !t.q
    let c3 := if k then [10] else c2
    (c3, { t with at_ := a2, cr := k, eof := c3 == [], line := if c3 == [10] then t.line + 1 else t.line })
noncomputable def ung (t : T) (c : List Nat) : T := { t with uch := some c }

noncomputable def skip (x : List Nat) : Nat → Nat → T → Nat × T
  | 0, k, t => (k, t)
  | f + 1, k, t =>
    let r := getc x t
    if r.1 ≠ [32] ∧ r.1 ≠ [9] ∧ (r.1 ≠ [10] ∨ r.2.ml = 0) then (k, ung r.2 r.1) else skip x f (k + 1) r.2
noncomputable def comm (x : List Nat) : Nat → List Nat → T → List Nat × List Nat × T
  | 0, tk, t => (tk, [], t)
  | f + 1, tk, t =>
    let r := getc x t
    if r.1 = [10] ∨ r.1 = [] then (tk, r.1, r.2) else comm x f (tk ++ r.1) r.2

inductive Rs where
  | tok (ty : Nat) (val : List Nat) (esc : Bool) (com : Option (List Nat))
  | synt
  | ended
deriving DecidableEq

noncomputable def DEL : List (List Nat) := [[32], [9], [10], [59], [40], [41], [34]]
noncomputable def QDEL : List (List Nat) := [[34]]
noncomputable def dels (q : Bool) : List (List Nat) := if q then QDEL else DEL
noncomputable def FUEL : Nat := 200
noncomputable def fin (tk : List Nat) (ty : Nat) (esc : Bool) (t : T) : Rs × T :=
  if tk = [] ∧ ty ≠ 4 then (if t.ml ≠ 0 then (.synt, t) else (.tok 0 tk esc none, t)) else (.tok ty tk esc none, t)
noncomputable def loop (x : List Nat) (note : Bool) : Nat → List Nat → Nat → Bool → T → Rs × T
  | 0, _, _, _, t => (.ended, t)
  | f + 1, tk, ty, esc, t =>
    let r := getc x t
    let c := r.1
    let t := r.2
    if c = [] ∨ c ∈ dels t.q then
      if c = [] ∧ t.q = true then (.ended, t)
      else if tk = [] ∧ ty ≠ 4 then
        if c = [40] then loop x note f tk ty esc (skip x FUEL 0 { t with ml := t.ml + 1 }).2
        else if c = [41] then
          if t.ml = 0 then (.synt, t) else loop x note f tk ty esc (skip x FUEL 0 { t with ml := t.ml - 1 }).2
        else if c = [34] then
          if t.q = false then loop x note f tk 4 esc { t with q := true }
          else loop x note f tk ty esc (skip x FUEL 0 { t with q := false }).2
        else if c = [10] then (.tok 1 [10] false none, t)
        else if c = [59] then
          let m := comm x FUEL tk t
          let tk := m.1
          let c := m.2.1
          let t := m.2.2
          if note then (.tok 5 tk false none, ung t c)
          else if c = [] then (if t.ml ≠ 0 then (.synt, t) else (.tok 0 [] false (some tk), t))
          else if t.ml ≠ 0 then loop x note f [] ty esc (skip x FUEL 0 t).2
          else (.tok 1 [10] false (some tk), t)
        else fin c 6 esc t
      else fin tk ty esc (ung t c)
    else if t.q = true ∧ c = [10] then (.synt, t)
    else if c = [92] then
      let r := getc x t
      if r.1 = [] ∨ (r.1 = [10] ∧ r.2.q = false) then (.ended, r.2)
      else loop x note f (tk ++ c ++ r.1) ty true r.2
    else loop x note f (tk ++ c) ty esc t
noncomputable def getP (x : List Nat) (lead note : Bool) (t : T) : Rs × T :=
  let k := skip x FUEL 0 t
  if lead = true ∧ 0 < k.1 then (.tok 2 [32] false none, k.2) else loop x note FUEL [] 3 false k.2
noncomputable def T0 : T := ⟨0, none, 0, false, false, false, 1⟩

/-! the law's own reckoning -/
inductive Kd where
  | blank | lpar | rpar | line | comment | quoted | close | word | ends | torn | over
deriving DecidableEq
noncomputable def Kd.s : Kd → List Nat
  | .blank => [98, 108, 97, 110, 107]
  | .lpar => [40]
  | .rpar => [41]
  | .line => [108, 105, 110, 101]
  | .comment => [99, 111, 109, 109, 101, 110, 116]
  | .quoted => [113, 117, 111, 116, 101, 100]
  | .close => [99, 108, 111, 115, 101]
  | .word => [119, 111, 114, 100]
  | .ends => [101, 110, 100]
  | .torn => [116, 111, 114, 110]
  | .over => [111, 118, 101, 114]
structure Pc where
  k : Kd
  st : Nat
  en : Nat
  val : List Nat
  esc : Bool
deriving DecidableEq
noncomputable def seg (x : List Nat) (a b : Nat) : List Nat := (x.drop a).take (b - a)

noncomputable def stopsIn (inside : Bool) (c : Nat) : Bool := if inside then [34, 10].contains c else [32, 9, 13, 10, 59, 40, 41, 34].contains c
/-- kind, stop, escaped, line ends -/
noncomputable def bodyF (x : List Nat) (inside : Bool) : Nat → Nat → Bool → List Nat → Kd × Nat × Bool × List Nat
  | 0, stop, esc, ls => (.ends, stop, esc, ls)
  | f + 1, stop, esc, ls =>
    if stop < x.length ∧ stopsIn inside (x.getD stop 0) = false then
      if x.getD stop 0 = 92 then
        if stop + 1 = x.length then (.ends, stop + 1, true, ls)
        else if (x.getD (stop + 1) 0 = 13 ∨ x.getD (stop + 1) 0 = 10) ∧ inside = false then (.ends, stop + 2, true, ls ++ [stop + 1])
        else bodyF x inside f (stop + 2) true (if x.getD (stop + 1) 0 = 10 then ls ++ [stop + 1] else ls)
      else bodyF x inside f (stop + 1) esc ls
    else if inside = true ∧ stop = x.length then (.ends, stop, esc, ls)
    else if inside = true ∧ x.getD stop 0 = 10 then (.torn, stop + 1, esc, ls ++ [stop])
    else (if inside then .quoted else .word, stop, esc, ls)
noncomputable def comStop (x : List Nat) : Nat → Nat → Nat
  | 0, s => s
  | f + 1, s => if s < x.length ∧ [13, 10].contains (x.getD s 0) = false then comStop x f (s + 1) else s
/-- the pieces that open at a place: pieces, line ends, whether the cut ends here -/
noncomputable def stepP (x : List Nat) (a : Nat) : List Pc × List Nat × Bool :=
  let c := x.getD a 0
  if c = 32 ∨ c = 9 then ([⟨.blank, a, a + 1, [], false⟩], [], false)
  else if c = 40 then ([⟨.lpar, a, a + 1, [], false⟩], [], false)
  else if c = 41 then ([⟨.rpar, a, a + 1, [], false⟩], [], false)
  else if c = 13 ∨ c = 10 then ([⟨.line, a, if seg x a (a + 2) = [13, 10] then a + 2 else a + 1, [], false⟩], [a], false)
  else if c = 59 then ([⟨.comment, a, comStop x FUEL (a + 1), seg x (a + 1) (comStop x FUEL (a + 1)), false⟩], [], false)
  else
    let ins := c == 34
    let b := bodyF x ins FUEL (if ins then a + 1 else a) false []
    if b.1 = .quoted then ([⟨.quoted, a, b.2.1, seg x (a + 1) b.2.1, b.2.2.1⟩, ⟨.close, b.2.1, b.2.1 + 1, [], false⟩], b.2.2.2, false)
    else ([⟨b.1, a, b.2.1, seg x a b.2.1, b.2.2.1⟩], b.2.2.2, b.1 = .ends ∨ b.1 = .torn)
noncomputable def lastEn (ps : List Pc) : Nat := match ps.getLast? with
  | some p => p.en
  | none => 0
noncomputable def pcs (x : List Nat) : Nat → Nat → List Pc × List Nat
  | 0, _ => ([], [])
  | f + 1, a =>
    if a < x.length then
      let s := stepP x a
      if s.2.2 then (s.1, s.2.1) else
      let r := pcs x f (lastEn s.1)
      (s.1 ++ r.1, s.2.1 ++ r.2)
    else ([⟨.over, a, a, [], false⟩], [])

noncomputable def pcD : Pc := ⟨.over, 0, 0, [], false⟩
noncomputable def past (ps : List Pc) (d : Nat) : Nat → Nat → Nat
  | 0, i => i
  | f + 1, i => if (ps.getD i pcD).k = .blank ∨ (0 < d ∧ (ps.getD i pcD).k = .line) then past ps d f (i + 1) else i
noncomputable abbrev Sd := Nat × List Nat × Bool × Option (List Nat)
inductive Vd where
  | fine (s : Sd)
  | synt
  | ended
deriving DecidableEq
noncomputable def nextL (ps : List Pc) (note : Bool) : Nat → Nat → Nat → Vd × Nat × Nat × Nat
  | 0, i, d => (.ended, i, d, 0)
  | f + 1, i, d =>
    let p := ps.getD i pcD
    if p.k = .lpar ∨ p.k = .rpar ∨ p.k = .close ∨ p.k = .comment then
      if p.k = .rpar ∧ d = 0 then (.synt, i, d, p.en)
      else if p.k = .comment ∧ note = true then (.fine (5, p.val, false, none), i + 1, d, p.en + 1)
      else if p.k = .comment ∧ d = 0 ∧ (ps.getD (i + 1) pcD).k = .over then (.fine (0, [], false, some p.val), i + 1, d, p.en)
      else if p.k = .comment ∧ d = 0 then (.fine (1, [10], false, some p.val), i + 2, d, p.en + 1)
      else
        let d' := if p.k = .lpar then d + 1 else if p.k = .rpar then d - 1 else d
        nextL ps note f (past ps d' FUEL (i + 1)) d'
    else if p.k = .ends then (.ended, i, d, p.en)
    else if p.k = .torn ∨ (p.k = .over ∧ 0 < d) then (.synt, i, d, p.en)
    else if p.k = .over then (.fine (0, [], false, none), i, d, p.en)
    else if p.k = .line then (.fine (1, [10], false, none), i + 1, d, p.st + 1)
    else if p.k = .word then (.fine (3, p.val, p.esc, none), i + 1, d, p.en + 1)
    else (.fine (4, p.val, p.esc, none), i + 1, d, p.en + 1)
noncomputable def nextP (ps : List Pc) (lead note : Bool) (b d : Nat) : Vd × Nat × Nat × Nat :=
  let i := past ps d FUEL b
  if lead = true ∧ b < i then (.fine (2, [32], false, none), i, d, (ps.getD i pcD).st + 1) else nextL ps note FUEL i d

noncomputable def cnt (L : List Nat) (r : Nat) : Nat := (L.filter (· < r)).length
noncomputable def Rs.vd : Rs → Vd
  | .tok a b c d => .fine (a, b, c, d)
  | .synt => .synt
  | .ended => .ended
end Mine

end
section
namespace Mine
section
variable {x : List Nat} {i : Bool} {n s : Nat} {e : Bool} {l : List Nat}
theorem bF_torn (h1 : s < x.length) (h2 : x.getD s 0 = 10) : bodyF x true (n + 1) s e l = (.torn, s + 1, e, l ++ [s]) := by
  rw [bodyF, h2, if_neg (fun h => by simp [stopsIn] at h), if_neg (fun h => by omega), if_pos ⟨rfl, rfl⟩]
theorem bF_quoted (h1 : s < x.length) (h2 : stopsIn true (x.getD s 0) = true) (h3 : x.getD s 0 ≠ 10) : bodyF x true (n + 1) s e l = (.quoted, s, e, l) := by
  rw [bodyF, if_neg (fun h => by rw [h2] at h; cases h.2), if_neg (fun h => by omega), if_neg (fun h => h3 h.2)]; rfl
theorem bF_word (h2 : s < x.length → stopsIn false (x.getD s 0) = true) : bodyF x false (n + 1) s e l = (.word, s, e, l) := by
  rw [bodyF, if_neg (fun h => by rw [h2 h.1] at h; cases h.2), if_neg (fun h => by cases h.1), if_neg (fun h => by cases h.1)]; rfl
theorem bF_escEnd (h1 : s + 1 = x.length) (h3 : x.getD s 0 = 92) : bodyF x i (n + 1) s e l = (.ends, s + 1, true, l) := by
  rw [bodyF, h3, if_pos ⟨by omega, by cases i <;> rfl⟩, if_pos rfl, if_pos h1]
theorem bF_escNl (h1 : s + 1 < x.length) (h3 : x.getD s 0 = 92) (h4 : x.getD (s + 1) 0 = 13 ∨ x.getD (s + 1) 0 = 10) : bodyF x false (n + 1) s e l = (.ends, s + 2, true, l ++ [s + 1]) := by
  rw [bodyF, h3, if_pos ⟨by omega, rfl⟩, if_pos rfl, if_neg (by omega), if_pos ⟨h4, rfl⟩]
theorem bF_esc (h1 : s + 1 < x.length) (h3 : x.getD s 0 = 92) (h4 : i = true ∨ (x.getD (s + 1) 0 ≠ 13 ∧ x.getD (s + 1) 0 ≠ 10)) : bodyF x i (n + 1) s e l = bodyF x i n (s + 2) true (if x.getD (s + 1) 0 = 10 then l ++ [s + 1] else l) := by
  rw [bodyF, h3, if_pos ⟨by omega, by cases i <;> rfl⟩, if_pos rfl, if_neg (by omega), if_neg]
  rintro ⟨h5, rfl⟩
  rcases h4 with h4 | ⟨h4, h6⟩
  · cases h4
  · rcases h5 with h5 | h5
    · exact h4 h5
    · exact h6 h5
theorem bF_esc10 (h1 : s + 1 < x.length) (h3 : x.getD s 0 = 92) (h4 : x.getD (s + 1) 0 = 10) : bodyF x true (n + 1) s e l = bodyF x true n (s + 2) true (l ++ [s + 1]) := by
  rw [bF_esc h1 h3 (.inl rfl), if_pos h4]
theorem bF_escN (h1 : s + 1 < x.length) (h3 : x.getD s 0 = 92) (h4 : x.getD (s + 1) 0 ≠ 10) (h5 : i = true ∨ x.getD (s + 1) 0 ≠ 13) : bodyF x i (n + 1) s e l = bodyF x i n (s + 2) true l := by
  rw [bF_esc h1 h3 (h5.imp id fun h => ⟨h, h4⟩), if_neg h4]
theorem bF_go (h1 : s < x.length) (h2 : stopsIn i (x.getD s 0) = false) (h3 : x.getD s 0 ≠ 92) : bodyF x i (n + 1) s e l = bodyF x i n (s + 1) e l := by
  rw [bodyF, if_pos ⟨h1, h2⟩, if_neg h3]
theorem bF_over (h1 : s = x.length) : bodyF x true (n + 1) s e l = (.ends, s, e, l) := by
  rw [bodyF, if_neg (fun h => by omega), if_pos ⟨rfl, h1⟩]
end
end Mine

end
section
namespace Mine
/-! the reader -/
noncomputable def cv (n : Nat) : Nat := if n = 13 then 10 else n
noncomputable def nx (x : List Nat) (a : Nat) : Nat := if x.getD a 0 = 13 ∧ x.getD (a + 1) 0 = 10 then a + 2 else a + 1
noncomputable def ch (x : List Nat) (a : Nat) : List Nat := if a < x.length then [cv (x.getD a 0)] else []
noncomputable def nxx (x : List Nat) (a : Nat) : Nat := if a < x.length then nx x a else a
noncomputable def nl (x : List Nat) (a : Nat) : Nat := if ch x a = [10] then 1 else 0
theorem getD_ge {x : List Nat} {a : Nat} (h : x.length ≤ a) : x.getD a 0 = 0 := by
  rw [List.getD_eq_getElem?_getD, List.getElem?_eq_none h]; rfl
theorem getD_lt {x : List Nat} {a : Nat} (h : x.getD a 0 ≠ 0) : a < x.length := by
  apply Classical.byContradiction; intro q; exact h (getD_ge (by omega))
theorem one_lt {x : List Nat} {a : Nat} (h : a < x.length) : one x a = [x.getD a 0] := by
  unfold one
  rw [List.drop_eq_getElem_cons h]
  show x[a] :: List.take 0 _ = _
  rw [List.take_zero, List.getD_eq_getElem?_getD, List.getElem?_eq_getElem h]; rfl
theorem one_ge {x : List Nat} {a : Nat} (h : x.length ≤ a) : one x a = [] := by
  unfold one; rw [List.drop_of_length_le h]; rfl
theorem nx_gt {x : List Nat} {a : Nat} : a < nx x a := by unfold nx; split <;> omega
theorem nx_le {x : List Nat} {a : Nat} (h : a < x.length) : nx x a ≤ x.length := by
  unfold nx
  split
  · rename_i q
    have := getD_lt (x := x) (a := a + 1) (by rw [q.2]; decide)
    omega
  · omega
theorem nx_ne {x : List Nat} {a : Nat} (h : x.getD a 0 ≠ 13) : nx x a = a + 1 := by
  unfold nx; rw [if_neg (fun q => h q.1)]
theorem nxx_lt {x : List Nat} {a : Nat} (h : a < x.length) : nxx x a = nx x a := if_pos h
theorem nxx_ge {x : List Nat} {a : Nat} (h : x.length ≤ a) : nxx x a = a := if_neg (by omega)
theorem ch_lt {x : List Nat} {a : Nat} (h : a < x.length) : ch x a = [cv (x.getD a 0)] := if_pos h
theorem ch_ge {x : List Nat} {a : Nat} (h : x.length ≤ a) : ch x a = [] := if_neg (by omega)

/-- the reader stands at a, no sign given back -/
structure F (x : List Nat) (t : T) (a : Nat) : Prop where
  uch : t.uch = none
  q : t.q = false
  le : a ≤ x.length
  eof : t.eof = true → a = x.length
  at_ : (t.at_ = a ∧ (t.cr = true → x.getD a 0 ≠ 10)) ∨ (t.cr = true ∧ t.at_ + 1 = a ∧ x.getD t.at_ 0 = 10 ∧ t.eof = false)
/-- the reader stands at a, the sign there given back; n lines ahead of it -/
structure G (x : List Nat) (t : T) (a n : Nat) : Prop where
  le : a ≤ x.length
  uch : t.uch = some (ch x a)
  f : F x { t with uch := none } (nxx x a)
  line : t.line = n + nl x a
  plain : x.getD a 0 = 34 → t.cr = false ∧ t.eof = false
noncomputable def U (x : List Nat) (t : T) (a n : Nat) : Prop := (F x t a ∧ t.line = n) ∨ G x t a n
theorem getc_F {x : List Nat} {t : T} {a : Nat} (h : F x t a) : (getc x t).1 = ch x a ∧ F x (getc x t).2 (nxx x a) ∧ (getc x t).2.line = t.line + nl x a ∧ (getc x t).2.ml = t.ml := by
  obtain ⟨at_, uch, ml, q, eof, cr, line⟩ := t
  obtain ⟨rfl, rfl, hle, heof, hat⟩ := h
  dsimp only at heof hat
  by_cases ha : a < x.length
  · have he : eof = false := by cases eof with | false => rfl | true => exact absurd (heof rfl) (by omega)
    subst he
    rw [ch_lt ha, nxx_lt ha]
    unfold nl
    rw [ch_lt ha]
    have key : ∀ b : Bool, (if b = true then one x (at_ + (one x at_).length) else one x at_) = [x.getD a 0] → (if b = true then at_ + (one x at_).length + (one x (at_ + (one x at_).length)).length else at_ + (one x at_).length) = a + 1 →
        (cr && one x at_ == [10]) = b → (getc x ⟨at_, none, ml, false, false, cr, line⟩).1 = [cv (x.getD a 0)] ∧ F x (getc x ⟨at_, none, ml, false, false, cr, line⟩).2 (nx x a) ∧
        (getc x ⟨at_, none, ml, false, false, cr, line⟩).2.line = line + (if [cv (x.getD a 0)] = [10] then 1 else 0) ∧ (getc x ⟨at_, none, ml, false, false, cr, line⟩).2.ml = ml := by
      intro b k1 k2 k3
      unfold getc
      simp only [Bool.false_eq_true, if_false, k3, k1, k2, Bool.not_false, Bool.and_true]
      by_cases h13 : x.getD a 0 = 13
      · rw [h13]
        have c13 : cv 13 = 10 := rfl
        rw [c13]
        simp only [beq_self_eq_true, if_true, true_and]
        refine ⟨⟨rfl, rfl, nx_le ha, fun q => by simp at q, ?_⟩, trivial⟩
        unfold nx
        rw [h13]
        by_cases h10 : x.getD (a + 1) 0 = 10
        · right; rw [if_pos ⟨rfl, h10⟩]; exact ⟨rfl, rfl, h10, rfl⟩
        · left; rw [if_neg (fun q => h10 q.2)]; exact ⟨rfl, fun _ => h10⟩
      · have hb : ([x.getD a 0] == [13]) = false := by
          rw [beq_eq_false_iff_ne]; intro q; exact h13 (List.cons.inj q).1
        have hc : cv (x.getD a 0) = x.getD a 0 := if_neg h13
        rw [hb, hc, nx_ne h13]
        simp only [Bool.false_eq_true, if_false, true_and]
        refine ⟨⟨rfl, rfl, by omega, fun q => by simp at q, .inl ⟨rfl, fun q => by simp at q⟩⟩, ?_, trivial⟩
        by_cases h10 : [x.getD a 0] = [10]
        · rw [if_pos (by rw [h10]; rfl), if_pos h10]
        · rw [if_neg (by rw [beq_iff_eq]; exact h10), if_neg h10]; rfl
    rcases hat with ⟨rfl, hcr⟩ | ⟨hcr, h1, h2, _⟩
    · refine key false (by rw [if_neg (by decide)]; exact one_lt ha) (by rw [if_neg (by decide), one_lt ha]; rfl) ?_
      rw [one_lt ha]
      cases cr with
      | false => rfl
      | true =>
        have := hcr rfl
        rw [Bool.true_and, beq_eq_false_iff_ne]; intro q; exact this (List.cons.inj q).1
    · (try dsimp only at hcr h1 h2)
      subst hcr h1
      have l1 : one x at_ = [10] := by rw [one_lt (by omega), h2]
      refine key true ?_ ?_ ?_
      · rw [if_pos rfl, l1]; exact one_lt ha
      · rw [if_pos rfl, l1]; show at_ + 1 + (one x (at_ + 1)).length = _; rw [one_lt ha]; rfl
      · rw [l1]; rfl
  · have ha' : a = x.length := by omega
    rw [ch_ge (by omega), nxx_ge (by omega)]
    unfold nl
    rw [ch_ge (by omega)]
    cases eof with
    | true =>
      have : getc x ⟨at_, none, ml, false, true, cr, line⟩ = ([], ⟨at_, none, ml, false, true, cr, line⟩) := rfl
      rw [this]
      exact ⟨rfl, ⟨rfl, rfl, hle, heof, hat⟩, rfl, rfl⟩
    | false =>
      have key : ∀ b : Bool, (if b = true then one x (at_ + (one x at_).length) else one x at_) = [] → (if b = true then at_ + (one x at_).length + (one x (at_ + (one x at_).length)).length else at_ + (one x at_).length) = a →
        (cr && one x at_ == [10]) = b → (getc x ⟨at_, none, ml, false, false, cr, line⟩).1 = [] ∧ F x (getc x ⟨at_, none, ml, false, false, cr, line⟩).2 a ∧
        (getc x ⟨at_, none, ml, false, false, cr, line⟩).2.line = line + (if ([] : List Nat) = [10] then 1 else 0) ∧ (getc x ⟨at_, none, ml, false, false, cr, line⟩).2.ml = ml := by
        intro b k1 k2 k3
        unfold getc
        simp only [Bool.false_eq_true, if_false, k3, k1, k2, Bool.not_false, Bool.and_true]
        refine ⟨by first | rfl | trivial, ⟨rfl, rfl, hle, fun _ => ha', .inl ⟨rfl, fun q => by simp at q⟩⟩, by simp, by first | rfl | trivial⟩
      rcases hat with ⟨rfl, hcr⟩ | ⟨hcr, h1, h2, _⟩
      · refine key false (by rw [if_neg (by decide)]; exact one_ge (by omega)) (by rw [if_neg (by decide), one_ge (by omega)]; rfl) ?_
        rw [one_ge (by omega)]
        cases cr <;> rfl
      · (try dsimp only at hcr h1 h2)
        subst hcr h1
        have l1 : one x at_ = [10] := by rw [one_lt (getD_lt (by rw [h2]; decide)), h2]
        refine key true ?_ ?_ ?_
        · rw [if_pos rfl, l1]; exact one_ge (by simp; omega)
        · rw [if_pos rfl, l1]; show at_ + 1 + (one x (at_ + 1)).length = _; rw [one_ge (by omega)]; rfl
        · rw [l1]; rfl
theorem F_ml {x : List Nat} {t : T} {a m : Nat} (h : F x t a) : F x { t with ml := m } a := ⟨h.uch, h.q, h.le, h.eof, h.at_⟩
theorem getc_U {x : List Nat} {t : T} {a n : Nat} (h : U x t a n) : (getc x t).1 = ch x a ∧ F x (getc x t).2 (nxx x a) ∧ (getc x t).2.line = n + nl x a ∧ (getc x t).2.ml = t.ml := by
  rcases h with ⟨h, rfl⟩ | h
  · exact getc_F h
  · obtain ⟨at_, uch, ml, q, eof, cr, line⟩ := t
    have e := h.uch
    dsimp only at e
    subst e
    exact ⟨rfl, h.f, h.line, rfl⟩
theorem getc_plain {x : List Nat} {t : T} {a : Nat} (h : F x t a) (h34 : x.getD a 0 = 34) : (getc x t).2.cr = false ∧ (getc x t).2.eof = false := by
  obtain ⟨at_, uch, ml, q, eof, cr, line⟩ := t
  obtain ⟨rfl, rfl, hle, heof, hat⟩ := h
  dsimp only at heof hat
  have ha : a < x.length := getD_lt (by rw [h34]; decide)
  have he : eof = false := by cases eof with | false => rfl | true => exact absurd (heof rfl) (by omega)
  subst he
  have key : ∀ b : Bool, (if b = true then one x (at_ + (one x at_).length) else one x at_) = [34] → (cr && one x at_ == [10]) = b → (getc x ⟨at_, none, ml, false, false, cr, line⟩).2.cr = false ∧ (getc x ⟨at_, none, ml, false, false, cr, line⟩).2.eof = false := by
    intro b k1 k3
    unfold getc
    simp only [Bool.false_eq_true, if_false, k3, k1, Bool.not_false, Bool.and_true]
    exact ⟨rfl, rfl⟩
  rcases hat with ⟨rfl, hcr⟩ | ⟨hcr, h1, h2, _⟩
  · refine key false (by rw [if_neg (by decide), one_lt ha, h34]) ?_
    rw [one_lt ha, h34]; cases cr <;> rfl
  · (try dsimp only at hcr h1 h2)
    subst hcr h1
    have l1 : one x at_ = [10] := by rw [one_lt (by omega), h2]
    refine key true ?_ (by rw [l1]; rfl)
    rw [if_pos rfl, l1]; show one x (at_ + 1) = _; rw [one_lt ha, h34]
theorem getc_Up {x : List Nat} {t : T} {a n : Nat} (h : U x t a n) (h34 : x.getD a 0 = 34) : (getc x t).2.cr = false ∧ (getc x t).2.eof = false := by
  rcases h with ⟨h, _⟩ | h
  · exact getc_plain h h34
  · obtain ⟨at_, uch, ml, q, eof, cr, line⟩ := t
    have e := h.uch
    dsimp only at e
    subst e
    exact h.plain h34
theorem G_ung {x : List Nat} {t : T} {a n : Nat} (hl : a ≤ x.length) (h : F x t (nxx x a)) (e : t.line = n + nl x a) (p : x.getD a 0 = 34 → t.cr = false ∧ t.eof = false) : G x (ung t (ch x a)) a n :=
  ⟨hl, rfl, by
    have : ({ ung t (ch x a) with uch := none } : T) = t := by
      have := h.uch
      obtain ⟨at_, uch, ml, q, eof, cr, line⟩ := t
      dsimp only at this
      subst this
      rfl
    rw [this]; exact h, e, p⟩
theorem U_le {x : List Nat} {t : T} {a n : Nat} (h : U x t a n) : a ≤ x.length := by
  rcases h with ⟨h, _⟩ | h
  · exact h.le
  · exact h.le

/-- within a quoted string -/
structure FQ (x : List Nat) (t : T) (a : Nat) : Prop where
  uch : t.uch = none
  q : t.q = true
  eof : t.eof = false
  cr : t.cr = false
  at_ : t.at_ = a
/-- behind a quoted string, its quote given back -/
structure CQ (x : List Nat) (t : T) (a : Nat) : Prop where
  lt : a < x.length
  sign : x.getD a 0 = 34
  uch : t.uch = some [34]
  q : t.q = true
  eof : t.eof = false
  cr : t.cr = false
  at_ : t.at_ = a + 1
theorem getc_FQ {x : List Nat} {t : T} {a : Nat} (h : FQ x t a) (ha : a < x.length) : (getc x t).1 = [x.getD a 0] ∧ FQ x (getc x t).2 (a + 1) ∧ (getc x t).2.line = t.line + (if x.getD a 0 = 10 then 1 else 0) ∧ (getc x t).2.ml = t.ml := by
  obtain ⟨at_, uch, ml, q, eof, cr, line⟩ := t
  obtain ⟨rfl, rfl, rfl, rfl, rfl⟩ := h
  unfold getc
  simp only [Bool.false_eq_true, if_false, Bool.false_and, one_lt ha, Bool.not_true, Bool.and_false]
  refine ⟨by first | rfl | trivial, ⟨rfl, rfl, rfl, rfl, rfl⟩, ?_, by first | rfl | trivial⟩
  by_cases h : x.getD at_ 0 = 10
  · rw [h]; rfl
  · rw [if_neg h, if_neg (by rw [beq_iff_eq]; exact fun q => h (List.cons.inj q).1)]; rfl
theorem getc_FQ_end {x : List Nat} {t : T} {a : Nat} (h : FQ x t a) (ha : x.length ≤ a) : (getc x t).1 = [] ∧ (getc x t).2.q = true ∧ (getc x t).2.line = t.line := by
  obtain ⟨at_, uch, ml, q, eof, cr, line⟩ := t
  obtain ⟨rfl, rfl, rfl, rfl, rfl⟩ := h
  unfold getc
  simp only [Bool.false_eq_true, if_false, Bool.false_and, one_ge ha, Bool.not_true, Bool.and_false]
  exact ⟨by first | rfl | trivial, by first | rfl | trivial, by simp⟩
end Mine

end
section
namespace Mine
section
variable {x : List Nat} {note : Bool} {f : Nat} {tk : List Nat} {ty : Nat} {esc : Bool} {t : T}
theorem loop_end (h : (getc x t).1 = [] ∨ (getc x t).1 ∈ dels (getc x t).2.q) (hq : ¬ ((getc x t).1 = [] ∧ (getc x t).2.q = true)) (ht : ¬ (tk = [] ∧ ty ≠ 4)) :
    loop x note (f + 1) tk ty esc t = fin tk ty esc (ung (getc x t).2 (getc x t).1) := by
  rw [loop]; dsimp only; rw [if_pos h, if_neg hq, if_neg ht]
theorem loop_endq (h1 : (getc x t).1 = []) (h2 : (getc x t).2.q = true) : loop x note (f + 1) tk ty esc t = (.ended, (getc x t).2) := by
  rw [loop]; dsimp only; rw [if_pos (.inl h1), if_pos ⟨h1, h2⟩]
theorem loop_nl (h1 : (getc x t).1 = [10]) (h2 : (getc x t).2.q = true) : loop x note (f + 1) tk ty esc t = (.synt, (getc x t).2) := by
  rw [loop]; dsimp only; rw [if_neg (by rw [h1, h2]; decide), if_pos ⟨h2, h1⟩]
theorem loop_go (h : ¬ ((getc x t).1 = [] ∨ (getc x t).1 ∈ dels (getc x t).2.q)) (h2 : ¬ ((getc x t).2.q = true ∧ (getc x t).1 = [10])) (h3 : (getc x t).1 ≠ [92]) :
    loop x note (f + 1) tk ty esc t = loop x note f (tk ++ (getc x t).1) ty esc (getc x t).2 := by
  rw [loop]; dsimp only; rw [if_neg h, if_neg h2, if_neg h3]
theorem loop_esc (h3 : (getc x t).1 = [92]) :
    loop x note (f + 1) tk ty esc t = if (getc x (getc x t).2).1 = [] ∨ ((getc x (getc x t).2).1 = [10] ∧ (getc x (getc x t).2).2.q = false) then (.ended, (getc x (getc x t).2).2)
      else loop x note f (tk ++ [92] ++ (getc x (getc x t).2).1) ty true (getc x (getc x t).2).2 := by
  rw [loop]; dsimp only
  rw [if_neg (by rw [h3]; cases (getc x t).2.q <;> decide), if_neg (by rw [h3]; intro q; exact absurd q.2 (by decide)), if_pos h3, h3]
/-- ahead of a token -/
theorem loop_first (h : (getc x t).1 = [] ∨ (getc x t).1 ∈ dels (getc x t).2.q) (hq : ¬ ((getc x t).1 = [] ∧ (getc x t).2.q = true)) (ht : ty ≠ 4) :
    loop x note (f + 1) [] ty esc t =
        if (getc x t).1 = [40] then loop x note f [] ty esc (skip x FUEL 0 { (getc x t).2 with ml := (getc x t).2.ml + 1 }).2
        else if (getc x t).1 = [41] then
          if (getc x t).2.ml = 0 then (.synt, (getc x t).2) else loop x note f [] ty esc (skip x FUEL 0 { (getc x t).2 with ml := (getc x t).2.ml - 1 }).2
        else if (getc x t).1 = [34] then
          if (getc x t).2.q = false then loop x note f [] 4 esc { (getc x t).2 with q := true }
          else loop x note f [] ty esc (skip x FUEL 0 { (getc x t).2 with q := false }).2
        else if (getc x t).1 = [10] then (.tok 1 [10] false none, (getc x t).2)
        else if (getc x t).1 = [59] then
          if note then (.tok 5 (comm x FUEL [] (getc x t).2).1 false none, ung (comm x FUEL [] (getc x t).2).2.2 (comm x FUEL [] (getc x t).2).2.1)
          else if (comm x FUEL [] (getc x t).2).2.1 = [] then (if (comm x FUEL [] (getc x t).2).2.2.ml ≠ 0 then (.synt, (comm x FUEL [] (getc x t).2).2.2) else (.tok 0 [] false (some (comm x FUEL [] (getc x t).2).1), (comm x FUEL [] (getc x t).2).2.2))
          else if (comm x FUEL [] (getc x t).2).2.2.ml ≠ 0 then loop x note f [] ty esc (skip x FUEL 0 (comm x FUEL [] (getc x t).2).2.2).2
          else (.tok 1 [10] false (some (comm x FUEL [] (getc x t).2).1), (comm x FUEL [] (getc x t).2).2.2)
        else fin (getc x t).1 6 esc (getc x t).2 := by
  rw [loop]; dsimp only; rw [if_pos h, if_neg hq, if_pos ⟨rfl, ht⟩]
end

theorem seg_self {x : List Nat} {s : Nat} : seg x s s = [] := by unfold seg; rw [Nat.sub_self]; rfl
theorem seg_cons {x : List Nat} {s e : Nat} (h : s < x.length) (h2 : s < e) : seg x s e = x.getD s 0 :: seg x (s + 1) e := by
  unfold seg
  rw [List.drop_eq_getElem_cons h, show e - s = (e - (s + 1)) + 1 by omega, List.take_succ_cons, List.getD_eq_getElem?_getD, List.getElem?_eq_getElem h]; rfl
theorem stop_del {c : Nat} (h : stopsIn false c = true) : [cv c] ∈ dels false := by
  simp [stopsIn] at h
  rcases h with rfl | rfl | rfl | rfl | rfl | rfl | rfl | rfl <;> decide
theorem nostop {c : Nat} (h : stopsIn false c = false) : c ≠ 32 ∧ c ≠ 9 ∧ c ≠ 13 ∧ c ≠ 10 ∧ c ≠ 59 ∧ c ≠ 40 ∧ c ≠ 41 ∧ c ≠ 34 := by
  simpa [stopsIn] using h
theorem nostop_del {c : Nat} (h : stopsIn false c = false) : cv c = c ∧ [c] ∉ dels false := by
  have h := nostop h
  exact ⟨if_neg h.2.2.1, by simp [dels, DEL, h]⟩
theorem cv_ne {c : Nat} (h : c ≠ 13) : cv c = c := if_neg h
theorem nl_of {x : List Nat} {a n : Nat} (h : ch x a = [n]) (hn : n ≠ 10) : nl x a = 0 := by
  unfold nl; rw [h, if_neg]; intro q; exact hn (List.cons.inj q).1
theorem nl_10 {x : List Nat} {a : Nat} (h : ch x a = [10]) : nl x a = 1 := by unfold nl; rw [h, if_pos rfl]
theorem nl_nil {x : List Nat} {a : Nat} (h : ch x a = []) : nl x a = 0 := by unfold nl; rw [h]; rfl

theorem loop_word {x : List Nat} {note : Bool} : ∀ (f g s : Nat) (tk : List Nat) (esc : Bool) (l : List Nat) (t : T) (m : Nat) (B : Kd × Nat × Bool × List Nat) (r : Rs × T), bodyF x false g s esc l = B → loop x note f tk 3 esc t = r → x.length - s < f → x.length - s < g → U x t s m →
    (tk ≠ [] ∨ (s < x.length ∧ stopsIn false (x.getD s 0) = false)) →
    ∃ l2, B.2.2.2 = l ++ l2 ∧ s ≤ B.2.1 ∧ B.2.1 ≤ x.length ∧ (∀ y ∈ l2, s < y ∧ y < B.2.1) ∧ (s < x.length → stopsIn false (x.getD s 0) = false → s < B.2.1) ∧
      ((B.1 = .word ∧ l2 = [] ∧ r.1 = .tok 3 (tk ++ seg x s B.2.1) B.2.2.1 none ∧ G x r.2 B.2.1 m ∧ r.2.ml = t.ml) ∨ (B.1 = .ends ∧ r.1 = .ended ∧ r.2.line = m + l2.length))
  | 0, _, _, _, _, _, _, _, _, _, _, _, hf, _, _, _ => by omega
  | _ + 1, 0, _, _, _, _, _, _, _, _, _, _, _, hg, _, _ => by omega
  | f + 1, g + 1, s, tk, esc, l, t, m, B, r, hB, hr, hf, hg, hF, htk => by
    obtain ⟨g1, g2, g3, g4⟩ := getc_U hF
    have gq := g2.q
    by_cases hs : s < x.length
    · rw [ch_lt hs] at g1
      rw [nxx_lt hs] at g2
      cases hst : stopsIn false (x.getD s 0) with
      | true =>
        have htk' : tk ≠ [] := by rcases htk with h | h; exact h; rw [hst] at h; cases h.2
        rw [bF_word (fun _ => hst)] at hB
        rw [loop_end (by rw [g1, gq]; exact .inr (stop_del hst)) (by rw [gq]; intro q; cases q.2) (fun q => htk' q.1)] at hr
        subst hB hr
        refine ⟨[], (List.append_nil _).symm, Nat.le_refl _, (by dsimp only; omega), fun y hy => (by cases hy), fun _ q => (by cases q), .inl ⟨rfl, rfl, ?_, ?_, ?_⟩⟩
        · unfold fin; rw [if_neg (fun q => htk' q.1), seg_self, List.append_nil]
        · unfold fin; rw [if_neg (fun q => htk' q.1), g1, ← ch_lt hs]; exact G_ung (by omega) (by rw [nxx_lt hs]; exact g2) g3 (getc_Up hF)
        · unfold fin; rw [if_neg (fun q => htk' q.1)]; exact g4
      | false =>
        obtain ⟨c1, c2⟩ := nostop_del hst
        obtain ⟨_, _, n13, n10, _⟩ := nostop hst
        rw [c1] at g1
        rw [nx_ne n13] at g2
        have hnl : nl x s = 0 := nl_of ((ch_lt hs).trans (by rw [c1])) n10
        rw [hnl, Nat.add_zero] at g3
        by_cases h92 : x.getD s 0 = 92
        · rw [h92] at g1
          rw [loop_esc g1] at hr
          obtain ⟨k1, k2, k3, k4⟩ := getc_F g2
          have kq := k2.q
          by_cases hs1 : s + 1 < x.length
          · rw [ch_lt hs1] at k1
            by_cases hc : x.getD (s + 1) 0 = 13 ∨ x.getD (s + 1) 0 = 10
            · have hk : cv (x.getD (s + 1) 0) = 10 := by rcases hc with h | h <;> rw [h] <;> rfl
              rw [hk] at k1
              rw [nl_10 ((ch_lt hs1).trans (by rw [hk]))] at k3
              rw [bF_escNl hs1 h92 hc] at hB
              rw [if_pos (.inr ⟨k1, kq⟩)] at hr
              subst hB hr
              refine ⟨[s + 1], rfl, by dsimp only; omega, by dsimp only; omega, fun y hy => ?_, fun _ _ => by dsimp only; omega, .inr ⟨rfl, rfl, ?_⟩⟩
              · rw [List.mem_singleton] at hy; subst hy; dsimp only; omega
              · dsimp only; rw [k3, g3]; rfl
            · have n13' : x.getD (s + 1) 0 ≠ 13 := fun q => hc (.inl q)
              have n10' : x.getD (s + 1) 0 ≠ 10 := fun q => hc (.inr q)
              rw [cv_ne n13'] at k1
              rw [nl_of ((ch_lt hs1).trans (by rw [cv_ne n13'])) n10', Nat.add_zero] at k3
              rw [nxx_lt hs1, nx_ne n13'] at k2
              rw [bF_escN hs1 h92 n10' (.inr n13')] at hB
              rw [if_neg (by rw [k1]; rintro (q | q); cases q; exact n10' (List.cons.inj q.1).1), k1] at hr
              obtain ⟨l2, e1, e2, e3, e4, e5, e6⟩ := loop_word f g (s + 2) _ true l _ _ B r hB hr (by omega) (by omega) (.inl ⟨k2, rfl⟩) (.inl (by simp))
              refine ⟨l2, e1, by omega, e3, fun y hy => ?_, fun _ _ => by omega, ?_⟩
              · have := e4 y hy; omega
              · rcases e6 with ⟨q1, q2, q3, q4, q5⟩ | ⟨q1, q2, q3⟩
                · refine .inl ⟨q1, q2, ?_, ?_, by rw [q5, k4, g4]⟩
                  · rw [q3, seg_cons hs (by omega), seg_cons hs1 (by omega), h92]; simp
                  · rw [k3, g3] at q4; exact q4
                · exact .inr ⟨q1, q2, by rw [q3, k3, g3]⟩
          · rw [ch_ge (by omega)] at k1
            rw [nl_nil (ch_ge (by omega)), Nat.add_zero] at k3
            rw [bF_escEnd (by omega) h92] at hB
            rw [if_pos (.inl k1)] at hr
            subst hB hr
            exact ⟨[], (List.append_nil _).symm, by dsimp only; omega, by dsimp only; omega, fun y hy => (by cases hy), fun _ _ => by dsimp only; omega, .inr ⟨rfl, rfl, by dsimp only; rw [k3, g3]; rfl⟩⟩
        · rw [bF_go hs hst h92] at hB
          rw [loop_go (by rw [g1, gq]; rintro (q | q); cases q; exact c2 q) (by rw [gq]; intro q; cases q.1) (by rw [g1]; intro q; exact h92 (List.cons.inj q).1), g1] at hr
          obtain ⟨l2, e1, e2, e3, e4, e5, e6⟩ := loop_word f g (s + 1) _ esc l _ _ B r hB hr (by omega) (by omega) (.inl ⟨g2, rfl⟩) (.inl (by simp))
          refine ⟨l2, e1, by omega, e3, fun y hy => ?_, fun _ _ => by omega, ?_⟩
          · have := e4 y hy; omega
          · rcases e6 with ⟨q1, q2, q3, q4, q5⟩ | ⟨q1, q2, q3⟩
            · refine .inl ⟨q1, q2, ?_, ?_, by rw [q5, g4]⟩
              · rw [q3, seg_cons hs (by omega)]; simp
              · rw [g3] at q4; exact q4
            · exact .inr ⟨q1, q2, by rw [q3, g3]⟩
    · have htk' : tk ≠ [] := by rcases htk with h | h; exact h; exact absurd h.1 hs
      have hse : s = x.length := by have := U_le hF; omega
      rw [bF_word (fun h => absurd h hs)] at hB
      rw [ch_ge (by omega)] at g1
      rw [loop_end (.inl g1) (by rw [gq]; intro q; cases q.2) (fun q => htk' q.1)] at hr
      subst hB hr
      refine ⟨[], (List.append_nil _).symm, Nat.le_refl _, by dsimp only; omega, fun y hy => (by cases hy), fun q => absurd q hs, .inl ⟨rfl, rfl, ?_, ?_, ?_⟩⟩
      · unfold fin; rw [if_neg (fun q => htk' q.1), seg_self, List.append_nil]
      · unfold fin; rw [if_neg (fun q => htk' q.1), g1, ← ch_ge (x := x) (a := s) (by omega)]; exact G_ung (by omega) g2 g3 (getc_Up hF)
      · unfold fin; rw [if_neg (fun q => htk' q.1)]; exact g4

theorem loop_quote {x : List Nat} {note : Bool} : ∀ (f g s : Nat) (tk : List Nat) (esc : Bool) (l : List Nat) (t : T) (B : Kd × Nat × Bool × List Nat) (r : Rs × T), bodyF x true g s esc l = B → loop x note f tk 4 esc t = r → x.length - s < f → x.length - s < g → FQ x t s → s ≤ x.length →
    ∃ l2, B.2.2.2 = l ++ l2 ∧ s ≤ B.2.1 ∧ B.2.1 ≤ x.length ∧ (∀ y ∈ l2, s ≤ y ∧ y < B.2.1) ∧
      ((B.1 = .quoted ∧ r.1 = .tok 4 (tk ++ seg x s B.2.1) B.2.2.1 none ∧ CQ x r.2 B.2.1 ∧ r.2.line = t.line + l2.length ∧ r.2.ml = t.ml) ∨ (B.1 = .ends ∧ r.1 = .ended ∧ r.2.line = t.line + l2.length) ∨
        (B.1 = .torn ∧ r.1 = .synt ∧ r.2.line = t.line + l2.length))
  | 0, _, _, _, _, _, _, _, _, _, _, hf, _, _, _ => by omega
  | _ + 1, 0, _, _, _, _, _, _, _, _, _, _, hg, _, _ => by omega
  | f + 1, g + 1, s, tk, esc, l, t, B, r, hB, hr, hf, hg, hF, hsl => by
    by_cases hs : s < x.length
    · obtain ⟨g1, g2, g3, g4⟩ := getc_FQ hF hs
      have gq := g2.q
      by_cases h10 : x.getD s 0 = 10
      · rw [bF_torn hs h10] at hB
        rw [h10] at g1 g3
        rw [loop_nl g1 gq] at hr
        subst hB hr
        refine ⟨[s], rfl, by dsimp only; omega, by dsimp only; omega, fun y hy => ?_, .inr (.inr ⟨rfl, rfl, ?_⟩)⟩
        · rw [List.mem_singleton] at hy; subst hy; dsimp only; omega
        · dsimp only; rw [g3]; rfl
      · rw [if_neg h10, Nat.add_zero] at g3
        by_cases h34 : x.getD s 0 = 34
        · rw [bF_quoted hs (by rw [h34]; decide) h10] at hB
          rw [h34] at g1
          rw [loop_end (by rw [g1, gq]; exact .inr (by decide)) (by rw [g1]; intro q; cases q.1) (fun q => q.2 rfl), g1] at hr
          subst hB hr
          refine ⟨[], (List.append_nil _).symm, Nat.le_refl _, by dsimp only; omega, fun y hy => (by cases hy), .inl ⟨rfl, ?_, ?_, ?_, ?_⟩⟩
          · unfold fin; rw [if_neg (fun q => q.2 rfl), seg_self, List.append_nil]
          · unfold fin; rw [if_neg (fun q => q.2 rfl)]; exact ⟨hs, h34, rfl, gq, g2.eof, g2.cr, g2.at_⟩
          · unfold fin; rw [if_neg (fun q => q.2 rfl)]; exact g3
          · unfold fin; rw [if_neg (fun q => q.2 rfl)]; exact g4
        · have hst : stopsIn true (x.getD s 0) = false := by simp [-List.getD_eq_getElem?_getD, stopsIn, h10, h34]
          by_cases h92 : x.getD s 0 = 92
          · rw [h92] at g1
            rw [loop_esc g1] at hr
            by_cases hs1 : s + 1 < x.length
            · obtain ⟨k1, k2, k3, k4⟩ := getc_FQ g2 hs1
              have kq := k2.q
              rw [if_neg (by rw [k1, kq]; rintro (q | q); cases q; cases q.2), k1] at hr
              by_cases h10' : x.getD (s + 1) 0 = 10
              · rw [bF_esc10 hs1 h92 h10'] at hB
                rw [if_pos h10'] at k3
                obtain ⟨l2, e1, e2, e3, e4, e5⟩ := loop_quote f g (s + 2) _ true _ _ B r hB hr (by omega) (by omega) k2 (by omega)
                refine ⟨(s + 1) :: l2, by rw [e1]; simp, by omega, e3, fun y hy => ?_, ?_⟩
                · rcases List.mem_cons.mp hy with rfl | hy
                  · omega
                  · have := e4 y hy; omega
                · rcases e5 with ⟨q1, q2, q3, q4, q5⟩ | ⟨q1, q2, q3⟩ | ⟨q1, q2, q3⟩
                  · refine .inl ⟨q1, ?_, q3, by rw [q4, k3, g3, List.length_cons]; omega, by rw [q5, k4, g4]⟩
                    rw [q2, seg_cons hs (by omega), seg_cons hs1 (by omega), h92]; simp
                  · exact .inr (.inl ⟨q1, q2, by rw [q3, k3, g3, List.length_cons]; omega⟩)
                  · exact .inr (.inr ⟨q1, q2, by rw [q3, k3, g3, List.length_cons]; omega⟩)
              · rw [bF_escN hs1 h92 h10' (.inl rfl)] at hB
                rw [if_neg h10', Nat.add_zero] at k3
                obtain ⟨l2, e1, e2, e3, e4, e5⟩ := loop_quote f g (s + 2) _ true _ _ B r hB hr (by omega) (by omega) k2 (by omega)
                refine ⟨l2, e1, by omega, e3, fun y hy => ?_, ?_⟩
                · have := e4 y hy; omega
                · rcases e5 with ⟨q1, q2, q3, q4, q5⟩ | ⟨q1, q2, q3⟩ | ⟨q1, q2, q3⟩
                  · refine .inl ⟨q1, ?_, q3, by rw [q4, k3, g3], by rw [q5, k4, g4]⟩
                    rw [q2, seg_cons hs (by omega), seg_cons hs1 (by omega), h92]; simp
                  · exact .inr (.inl ⟨q1, q2, by rw [q3, k3, g3]⟩)
                  · exact .inr (.inr ⟨q1, q2, by rw [q3, k3, g3]⟩)
            · obtain ⟨k1, k2, k3⟩ := getc_FQ_end g2 (by omega)
              rw [bF_escEnd (by omega) h92] at hB
              rw [if_pos (.inl k1)] at hr
              subst hB hr
              exact ⟨[], (List.append_nil _).symm, by dsimp only; omega, by dsimp only; omega, fun y hy => (by cases hy), .inr (.inl ⟨rfl, rfl, by dsimp only; rw [k3, g3]; rfl⟩)⟩
          · rw [bF_go hs hst h92] at hB
            rw [loop_go (by rw [g1, gq]; rintro (q | q); cases q; exact h34 (List.cons.inj (List.mem_singleton.mp q)).1) (by rw [g1]; intro q; exact h10 (List.cons.inj q.2).1) (by rw [g1]; intro q; exact h92 (List.cons.inj q).1), g1] at hr
            obtain ⟨l2, e1, e2, e3, e4, e5⟩ := loop_quote f g (s + 1) _ esc l _ B r hB hr (by omega) (by omega) g2 (by omega)
            refine ⟨l2, e1, by omega, e3, fun y hy => ?_, ?_⟩
            · have := e4 y hy; omega
            · rcases e5 with ⟨q1, q2, q3, q4, q5⟩ | ⟨q1, q2, q3⟩ | ⟨q1, q2, q3⟩
              · refine .inl ⟨q1, ?_, q3, by rw [q4, g3], by rw [q5, g4]⟩
                rw [q2, seg_cons hs (by omega)]; simp
              · exact .inr (.inl ⟨q1, q2, by rw [q3, g3]⟩)
              · exact .inr (.inr ⟨q1, q2, by rw [q3, g3]⟩)
    · obtain ⟨k1, k2, k3⟩ := getc_FQ_end hF (by omega)
      rw [bF_over (by omega)] at hB
      rw [loop_endq k1 k2] at hr
      subst hB hr
      exact ⟨[], (List.append_nil _).symm, Nat.le_refl _, by dsimp only; omega, fun y hy => (by cases hy), .inr (.inl ⟨rfl, rfl, k3⟩)⟩
end Mine

end
section
namespace Mine
/-! comments -/
theorem comm_ok {x : List Nat} : ∀ (f g s : Nat) (tk : List Nat) (t : T), x.length - s < f → x.length - s < g → F x t s →
    s ≤ comStop x g s ∧ comStop x g s ≤ x.length ∧ (comStop x g s < x.length → x.getD (comStop x g s) 0 = 13 ∨ x.getD (comStop x g s) 0 = 10) ∧
    (comm x f tk t).1 = tk ++ seg x s (comStop x g s) ∧ (comm x f tk t).2.1 = ch x (comStop x g s) ∧ F x (comm x f tk t).2.2 (nxx x (comStop x g s)) ∧
    (comm x f tk t).2.2.line = t.line + nl x (comStop x g s) ∧ (comm x f tk t).2.2.ml = t.ml
  | 0, _, _, _, _, hf, _, _ => by omega
  | _ + 1, 0, _, _, _, _, hg, _ => by omega
  | f + 1, g + 1, s, tk, t, hf, hg, hF => by
    obtain ⟨g1, g2, g3, g4⟩ := getc_F hF
    have hle := hF.le
    by_cases hs : s < x.length
    · by_cases hc : x.getD s 0 = 13 ∨ x.getD s 0 = 10
      · have hk : cv (x.getD s 0) = 10 := by rcases hc with h | h <;> rw [h] <;> rfl
        have e : comStop x (g + 1) s = s := by
          rw [comStop, if_neg]; rintro ⟨_, h⟩; rcases hc with h' | h' <;> rw [h'] at h <;> cases h
        have e2 : comm x (f + 1) tk t = (tk, (getc x t).1, (getc x t).2) := by
          rw [comm]; (try dsimp only); rw [if_pos (.inl (by rw [g1, ch_lt hs, hk]))]
        rw [e, e2]
        exact ⟨Nat.le_refl _, by omega, fun _ => hc, by rw [seg_self, List.append_nil], g1, g2, g3, g4⟩
      · have n13 : x.getD s 0 ≠ 13 := fun q => hc (.inl q)
        have n10 : x.getD s 0 ≠ 10 := fun q => hc (.inr q)
        have e : comStop x (g + 1) s = comStop x g (s + 1) := by
          rw [comStop, if_pos]; exact ⟨hs, by simp [-List.getD_eq_getElem?_getD, n13, n10]⟩
        rw [ch_lt hs, cv_ne n13] at g1
        rw [nxx_lt hs, nx_ne n13] at g2
        rw [nl_of ((ch_lt hs).trans (by rw [cv_ne n13])) n10, Nat.add_zero] at g3
        have e2 : comm x (f + 1) tk t = comm x f (tk ++ (getc x t).1) (getc x t).2 := by
          rw [comm]; (try dsimp only); rw [if_neg]; rw [g1]; rintro (q | q)
          · exact n10 (List.cons.inj q).1
          · cases q
        obtain ⟨k1, k2, k3, k4, k5, k6, k7, k8⟩ := comm_ok f g (s + 1) (tk ++ [x.getD s 0]) (getc x t).2 (by omega) (by omega) g2
        rw [e, e2, g1]
        exact ⟨by omega, k2, k3, by rw [k4, seg_cons hs (by omega)]; simp, k5, k6, by rw [k7, g3], by rw [k8, g4]⟩
    · have e : comStop x (g + 1) s = s := by rw [comStop, if_neg (fun h => hs h.1)]
      have e2 : comm x (f + 1) tk t = (tk, (getc x t).1, (getc x t).2) := by
        rw [comm]; (try dsimp only); rw [if_pos (.inr (by rw [g1, ch_ge (by omega)]))]
      rw [e, e2]
      exact ⟨Nat.le_refl _, hle, fun q => absurd q hs, by rw [seg_self, List.append_nil], g1, g2, g3, g4⟩
theorem comStop_le {x : List Nat} : ∀ (g s : Nat), s ≤ x.length → s ≤ comStop x g s ∧ comStop x g s ≤ x.length
  | 0, s, h => ⟨Nat.le_refl _, h⟩
  | g + 1, s, h => by
    rw [comStop]
    split
    · rename_i q
      have := comStop_le (x := x) g (s + 1) (by omega)
      omega
    · exact ⟨Nat.le_refl _, h⟩
theorem bodyF_le {x : List Nat} {i : Bool} : ∀ (g s : Nat) (e : Bool) (l : List Nat), s ≤ x.length → x.length - s < g →
    s ≤ (bodyF x i g s e l).2.1 ∧ (bodyF x i g s e l).2.1 ≤ x.length ∧ (∃ l2, (bodyF x i g s e l).2.2.2 = l ++ l2 ∧ (∀ y ∈ l2, s ≤ y ∧ y < (bodyF x i g s e l).2.1) ∧ (i = false → ∀ y ∈ l2, s < y)) ∧
    (s < x.length → stopsIn i (x.getD s 0) = false → s < (bodyF x i g s e l).2.1) ∧
    (((bodyF x i g s e l).1 = .quoted ∧ i = true ∧ (bodyF x i g s e l).2.1 < x.length ∧ x.getD (bodyF x i g s e l).2.1 0 = 34) ∨ ((bodyF x i g s e l).1 = .word ∧ i = false) ∨ (bodyF x i g s e l).1 = .ends ∨ ((bodyF x i g s e l).1 = .torn ∧ i = true))
  | 0, s, e, l, _, h => by omega
  | g + 1, s, e, l, hs, hg => by
    by_cases h1 : s < x.length
    · cases h2 : stopsIn i (x.getD s 0) with
      | true =>
        cases i with
        | false =>
          rw [bF_word (fun _ => h2)]
          exact ⟨Nat.le_refl _, hs, ⟨[], (List.append_nil _).symm, fun y hy => (by cases hy), fun _ y hy => (by cases hy)⟩, fun _ q => (by cases q), .inr (.inl ⟨rfl, rfl⟩)⟩
        | true =>
          by_cases h10 : x.getD s 0 = 10
          · rw [bF_torn h1 h10]
            exact ⟨by dsimp only; omega, by dsimp only; omega, ⟨[s], rfl, fun y hy => (by rw [List.mem_singleton] at hy; subst hy; dsimp only; omega), fun q => (by cases q)⟩, fun _ q => (by cases q), .inr (.inr (.inr ⟨rfl, rfl⟩))⟩
          · rw [bF_quoted h1 h2 h10]
            have h34 : x.getD s 0 = 34 := by simpa [-List.getD_eq_getElem?_getD, stopsIn, h10] using h2
            exact ⟨Nat.le_refl _, hs, ⟨[], (List.append_nil _).symm, fun y hy => (by cases hy), fun _ y hy => (by cases hy)⟩, fun _ q => (by cases q), .inl ⟨rfl, rfl, h1, h34⟩⟩
      | false =>
        by_cases h92 : x.getD s 0 = 92
        · by_cases hs1 : s + 1 < x.length
          · by_cases hc : i = false ∧ (x.getD (s + 1) 0 = 13 ∨ x.getD (s + 1) 0 = 10)
            · obtain ⟨rfl, hc⟩ := hc
              rw [bF_escNl hs1 h92 hc]
              exact ⟨by dsimp only; omega, by dsimp only; omega, ⟨[s + 1], rfl, fun y hy => (by rw [List.mem_singleton] at hy; subst hy; dsimp only; omega), fun _ y hy => (by rw [List.mem_singleton] at hy; subst hy; omega)⟩, fun _ _ => by dsimp only; omega, .inr (.inr (.inl rfl))⟩
            · have hc' : i = true ∨ (x.getD (s + 1) 0 ≠ 13 ∧ x.getD (s + 1) 0 ≠ 10) := by
                cases i with
                | true => exact .inl rfl
                | false => exact .inr ⟨fun q => hc ⟨rfl, .inl q⟩, fun q => hc ⟨rfl, .inr q⟩⟩
              rw [bF_esc hs1 h92 hc']
              obtain ⟨k1, k2, ⟨l2, k3, k4, k5⟩, k6, k7⟩ := bodyF_le (x := x) (i := i) g (s + 2) true (if x.getD (s + 1) 0 = 10 then l ++ [s + 1] else l) (by omega) (by omega)
              refine ⟨by omega, k2, ?_, fun _ _ => by omega, k7⟩
              by_cases h10 : x.getD (s + 1) 0 = 10
              · rw [if_pos h10] at k3 k4 k1 ⊢
                refine ⟨(s + 1) :: l2, by rw [k3]; simp, fun y hy => ?_, fun q => ?_⟩
                · rcases List.mem_cons.mp hy with rfl | hy
                  · omega
                  · have := k4 y hy; omega
                · rcases hc' with h | h
                  · rw [q] at h; cases h
                  · exact absurd h10 h.2
              · rw [if_neg h10] at k3 k4 ⊢
                exact ⟨l2, k3, fun y hy => (by have := k4 y hy; omega), fun q y hy => (by have := k4 y hy; omega)⟩
          · rw [bF_escEnd (by omega) h92]
            exact ⟨by dsimp only; omega, by dsimp only; omega, ⟨[], (List.append_nil _).symm, fun y hy => (by cases hy), fun _ y hy => (by cases hy)⟩, fun _ _ => by dsimp only; omega, .inr (.inr (.inl rfl))⟩
        · rw [bF_go h1 h2 h92]
          obtain ⟨k1, k2, ⟨l2, k3, k4, k5⟩, k6, k7⟩ := bodyF_le (x := x) (i := i) g (s + 1) e l (by omega) (by omega)
          exact ⟨by omega, k2, ⟨l2, k3, fun y hy => (by have := k4 y hy; omega), fun q y hy => (by have := k4 y hy; omega)⟩, fun _ _ => by omega, k7⟩
    · have hse : s = x.length := by omega
      cases i with
      | true =>
        rw [bF_over hse]
        exact ⟨Nat.le_refl _, hs, ⟨[], (List.append_nil _).symm, fun y hy => (by cases hy), fun _ y hy => (by cases hy)⟩, fun q => absurd q h1, .inr (.inr (.inl rfl))⟩
      | false =>
        rw [bF_word (fun q => absurd q h1)]
        exact ⟨Nat.le_refl _, hs, ⟨[], (List.append_nil _).symm, fun y hy => (by cases hy), fun _ y hy => (by cases hy)⟩, fun q => absurd q h1, .inr (.inl ⟨rfl, rfl⟩)⟩

/-! one step of the cut -/
section
variable {x : List Nat} {a : Nat}
theorem st_blank (h : x.getD a 0 = 32 ∨ x.getD a 0 = 9) : stepP x a = ([⟨.blank, a, a + 1, [], false⟩], [], false) := by
  unfold stepP; dsimp only; rw [if_pos h]
theorem st_lpar (h : x.getD a 0 = 40) : stepP x a = ([⟨.lpar, a, a + 1, [], false⟩], [], false) := by
  unfold stepP; dsimp only; rw [h]; rfl
theorem st_rpar (h : x.getD a 0 = 41) : stepP x a = ([⟨.rpar, a, a + 1, [], false⟩], [], false) := by
  unfold stepP; dsimp only; rw [h]; rfl
theorem seg2 (ha : a < x.length) : seg x a (a + 2) = [13, 10] ↔ x.getD a 0 = 13 ∧ x.getD (a + 1) 0 = 10 := by
  rw [seg_cons ha (by omega)]
  by_cases h : a + 1 < x.length
  · rw [seg_cons h (by omega), seg_self]; simp [-List.getD_eq_getElem?_getD]
  · have e : seg x (a + 1) (a + 2) = [] := by unfold seg; rw [List.drop_of_length_le (by omega), List.take_nil]
    rw [e, getD_ge (a := a + 1) (by omega)]
    constructor
    · intro q; cases (List.cons.inj q).2
    · intro q; cases q.2
theorem st_line (ha : a < x.length) (h : x.getD a 0 = 13 ∨ x.getD a 0 = 10) : stepP x a = ([⟨.line, a, nx x a, [], false⟩], [a], false) := by
  unfold stepP; dsimp only
  have e : (if seg x a (a + 2) = [13, 10] then a + 2 else a + 1) = nx x a := by
    unfold nx
    by_cases q : x.getD a 0 = 13 ∧ x.getD (a + 1) 0 = 10
    · rw [if_pos q, if_pos ((seg2 ha).mpr q)]
    · rw [if_neg q, if_neg (fun z => q ((seg2 ha).mp z))]
  rw [e]
  rcases h with h | h <;> rw [h] <;> rfl
theorem st_comment (h : x.getD a 0 = 59) : stepP x a = ([⟨.comment, a, comStop x FUEL (a + 1), seg x (a + 1) (comStop x FUEL (a + 1)), false⟩], [], false) := by
  unfold stepP; dsimp only; rw [h]; rfl
theorem st_quote (h : x.getD a 0 = 34) : stepP x a = if (bodyF x true FUEL (a + 1) false []).1 = .quoted then
    ([⟨.quoted, a, (bodyF x true FUEL (a + 1) false []).2.1, seg x (a + 1) (bodyF x true FUEL (a + 1) false []).2.1, (bodyF x true FUEL (a + 1) false []).2.2.1⟩, ⟨.close, (bodyF x true FUEL (a + 1) false []).2.1, (bodyF x true FUEL (a + 1) false []).2.1 + 1, [], false⟩], (bodyF x true FUEL (a + 1) false []).2.2.2, false)
    else ([⟨(bodyF x true FUEL (a + 1) false []).1, a, (bodyF x true FUEL (a + 1) false []).2.1, seg x a (bodyF x true FUEL (a + 1) false []).2.1, (bodyF x true FUEL (a + 1) false []).2.2.1⟩], (bodyF x true FUEL (a + 1) false []).2.2.2, (bodyF x true FUEL (a + 1) false []).1 = .ends ∨ (bodyF x true FUEL (a + 1) false []).1 = .torn) := by
  unfold stepP; dsimp only; rw [h]; rfl
theorem st_word (h : stopsIn false (x.getD a 0) = false) : stepP x a = if (bodyF x false FUEL a false []).1 = .quoted then
    ([⟨.quoted, a, (bodyF x false FUEL a false []).2.1, seg x (a + 1) (bodyF x false FUEL a false []).2.1, (bodyF x false FUEL a false []).2.2.1⟩, ⟨.close, (bodyF x false FUEL a false []).2.1, (bodyF x false FUEL a false []).2.1 + 1, [], false⟩], (bodyF x false FUEL a false []).2.2.2, false)
    else ([⟨(bodyF x false FUEL a false []).1, a, (bodyF x false FUEL a false []).2.1, seg x a (bodyF x false FUEL a false []).2.1, (bodyF x false FUEL a false []).2.2.1⟩], (bodyF x false FUEL a false []).2.2.2, (bodyF x false FUEL a false []).1 = .ends ∨ (bodyF x false FUEL a false []).1 = .torn) := by
  obtain ⟨h1, h2, h3, h4, h5, h6, h7, h8⟩ := nostop h
  unfold stepP; dsimp only
  have e : (x.getD a 0 == 34) = false := by rw [beq_eq_false_iff_ne]; exact h8
  rw [if_neg (by rintro (q | q); exact h1 q; exact h2 q), if_neg h6, if_neg h7, if_neg (by rintro (q | q); exact h3 q; exact h4 q), if_neg h5, e]
  rfl
end
end Mine

end
section
namespace Mine
/-! the cut from a place on -/
noncomputable def Ak (x : List Nat) (a : Nat) (s : List Pc × List Nat × Bool) : Prop := a < lastEn s.1 ∧ lastEn s.1 ≤ x.length ∧ (∀ y ∈ s.2.1, a ≤ y ∧ y < lastEn s.1) ∧ (x.getD a 0 ≠ 13 → x.getD a 0 ≠ 10 → ∀ y ∈ s.2.1, a < y) ∧ s.1 ≠ []
theorem step_ok {x : List Nat} {a : Nat} (ha : a < x.length) (hx : x.length ≤ 40) : Ak x a (stepP x a) := by
  by_cases h1 : x.getD a 0 = 32 ∨ x.getD a 0 = 9
  · rw [st_blank h1]; exact ⟨by show a < a + 1; omega, by show a + 1 ≤ _; omega, fun y hy => (by cases hy), fun _ _ y hy => (by cases hy), by simp⟩
  by_cases h2 : x.getD a 0 = 40
  · rw [st_lpar h2]; exact ⟨by show a < a + 1; omega, by show a + 1 ≤ _; omega, fun y hy => (by cases hy), fun _ _ y hy => (by cases hy), by simp⟩
  by_cases h3 : x.getD a 0 = 41
  · rw [st_rpar h3]; exact ⟨by show a < a + 1; omega, by show a + 1 ≤ _; omega, fun y hy => (by cases hy), fun _ _ y hy => (by cases hy), by simp⟩
  by_cases h4 : x.getD a 0 = 13 ∨ x.getD a 0 = 10
  · rw [st_line ha h4]
    have := nx_gt (x := x) (a := a)
    exact ⟨by show a < nx x a; omega, nx_le ha, fun y hy => (by rw [List.mem_singleton] at hy; subst hy; exact ⟨Nat.le_refl _, this⟩), fun q1 q2 => by rcases h4 with h4 | h4; exact absurd h4 q1; exact absurd h4 q2, by simp⟩
  have n13 : x.getD a 0 ≠ 13 := fun q => h4 (.inl q)
  have n10 : x.getD a 0 ≠ 10 := fun q => h4 (.inr q)
  by_cases h5 : x.getD a 0 = 59
  · rw [st_comment h5]
    have := comStop_le (x := x) FUEL (a + 1) (by omega)
    exact ⟨by show a < comStop x FUEL (a + 1); omega, this.2, fun y hy => (by cases hy), fun _ _ y hy => (by cases hy), by simp⟩
  by_cases h6 : x.getD a 0 = 34
  · rw [st_quote h6]
    obtain ⟨k1, k2, ⟨l2, k3, k4, _⟩, _, k7⟩ := bodyF_le (x := x) (i := true) FUEL (a + 1) false [] (by omega) (by unfold FUEL; omega)
    rw [List.nil_append] at k3
    split
    · rename_i hq
      rw [hq] at k7
      have k8 : (bodyF x true FUEL (a + 1) false []).2.1 < x.length := by
        rcases k7 with k | k | k | k
        · exact k.2.2.1
        · cases k.1
        · cases k
        · cases k.1
      refine ⟨by show a < _ + 1; omega, by show _ + 1 ≤ _; omega, fun y hy => ?_, fun _ _ y hy => ?_, by simp⟩
      · show a ≤ y ∧ y < _ + 1
        dsimp only at hy; rw [k3] at hy; have := k4 y hy; omega
      · dsimp only at hy; rw [k3] at hy; have := k4 y hy; omega
    · refine ⟨by show a < (bodyF x true FUEL (a + 1) false []).2.1; omega, k2, fun y hy => ?_, fun _ _ y hy => ?_, by simp⟩
      · show a ≤ y ∧ y < (bodyF x true FUEL (a + 1) false []).2.1
        dsimp only at hy; rw [k3] at hy; have := k4 y hy; omega
      · dsimp only at hy; rw [k3] at hy; have := k4 y hy; omega
  have hst : stopsIn false (x.getD a 0) = false := by
    simp [-List.getD_eq_getElem?_getD, stopsIn]
    exact ⟨fun q => h1 (.inl q), fun q => h1 (.inr q), n13, n10, h5, h2, h3, h6⟩
  rw [st_word hst]
  obtain ⟨k1, k2, ⟨l2, k3, k4, k5⟩, k6, k7⟩ := bodyF_le (x := x) (i := false) FUEL a false [] (by omega) (by unfold FUEL; omega)
  rw [List.nil_append] at k3
  rw [if_neg (fun hq => by rw [hq] at k7; rcases k7 with k | k | k | k; cases k.2.1; cases k.1; cases k; cases k.1)]
  refine ⟨k6 ha hst, k2, fun y hy => ?_, fun _ _ y hy => ?_, by simp⟩
  · show a ≤ y ∧ y < (bodyF x false FUEL a false []).2.1
    dsimp only at hy; rw [k3] at hy; have := k4 y hy; omega
  · dsimp only at hy; rw [k3] at hy; exact k5 rfl y hy

theorem pcs_lines {x : List Nat} (hx : x.length ≤ 40) : ∀ (f a : Nat), a ≤ x.length → ∀ y ∈ (pcs x f a).2, a ≤ y
  | 0, _, _, y, hy => by cases hy
  | f + 1, a, ha, y, hy => by
    rw [pcs] at hy
    by_cases h : a < x.length
    · obtain ⟨k1, k2, k3, k4, k5⟩ := step_ok h hx
      rw [if_pos h] at hy
      dsimp only at hy
      split at hy
      · exact (k3 y hy).1
      · rcases List.mem_append.mp hy with hy | hy
        · exact (k3 y hy).1
        · have := pcs_lines hx f (lastEn (stepP x a).1) k2 y hy; omega
    · rw [if_neg h] at hy; cases hy

structure AtP (x : List Nat) (ps : List Pc) (L : List Nat) (i a : Nat) (pre : List Nat) : Prop where
  hx : x.length ≤ 40
  le : a ≤ x.length
  ex : ∃ f, x.length - a < f ∧ ps.drop i = (pcs x f a).1 ∧ L = pre ++ (pcs x f a).2
  low : ∀ y ∈ pre, y < a
section
variable {x : List Nat} {ps : List Pc} {L : List Nat} {i a : Nat} {pre : List Nat}
theorem cnt_app {l1 l2 : List Nat} {r : Nat} : cnt (l1 ++ l2) r = cnt l1 r + cnt l2 r := by unfold cnt; rw [List.filter_append, List.length_append]
theorem cnt_all {l : List Nat} {r : Nat} (h : ∀ y ∈ l, y < r) : cnt l r = l.length := by
  unfold cnt; rw [List.filter_eq_self.mpr]; intro y hy; simpa using h y hy
theorem cnt_none {l : List Nat} {r : Nat} (h : ∀ y ∈ l, r ≤ y) : cnt l r = 0 := by
  unfold cnt; rw [List.filter_eq_nil_iff.mpr]; rfl; intro y hy; have := h y hy; simp; omega
theorem AtP.cnt0 (A : AtP x ps L i a pre) : cnt L a = pre.length := by
  obtain ⟨hx, hle, ⟨f, h1, h2, h3⟩, h4⟩ := A
  rw [h3, cnt_app, cnt_all h4, cnt_none (pcs_lines hx f a hle)]; omega
theorem AtP.over (A : AtP x ps L i a pre) (h : a = x.length) : ps.drop i = [⟨.over, a, a, [], false⟩] ∧ L = pre := by
  obtain ⟨hx, hle, ⟨f, h1, h2, h3⟩, h4⟩ := A
  cases f with
  | zero => omega
  | succ f =>
    rw [pcs, if_neg (by omega)] at h2 h3
    exact ⟨h2, by rw [h3, List.append_nil]⟩
theorem AtP.step (A : AtP x ps L i a pre) (h : a < x.length) (hs : (stepP x a).2.2 = false) :
    AtP x ps L (i + (stepP x a).1.length) (lastEn (stepP x a).1) (pre ++ (stepP x a).2.1) ∧ ∃ r, ps.drop i = (stepP x a).1 ++ r := by
  obtain ⟨hx, hle, ⟨f, h1, h2, h3⟩, h4⟩ := A
  obtain ⟨k1, k2, k3, k4, k5⟩ := step_ok h hx
  cases f with
  | zero => omega
  | succ f =>
    rw [pcs, if_pos h] at h2 h3
    dsimp only at h2 h3
    rw [hs] at h2 h3
    simp only [Bool.false_eq_true, if_false] at h2 h3
    refine ⟨⟨hx, k2, ⟨f, by omega, ?_, by rw [h3, List.append_assoc]⟩, fun y hy => ?_⟩, _, h2⟩
    · rw [← List.drop_drop, h2, List.drop_left]
    · rcases List.mem_append.mp hy with hy | hy
      · have := h4 y hy; omega
      · exact (k3 y hy).2
theorem AtP.stop (A : AtP x ps L i a pre) (h : a < x.length) (hs : (stepP x a).2.2 = true) : ps.drop i = (stepP x a).1 ∧ L = pre ++ (stepP x a).2.1 := by
  obtain ⟨hx, hle, ⟨f, h1, h2, h3⟩, h4⟩ := A
  cases f with
  | zero => omega
  | succ f =>
    rw [pcs, if_pos h] at h2 h3
    dsimp only at h2 h3
    rw [if_pos hs] at h2 h3
    exact ⟨h2, h3⟩
theorem getD_dropL {p : Pc} {r : List Pc} (h : ps.drop i = p :: r) : ps.getD i pcD = p ∧ i < ps.length := by
  have : ps[i]? = some p := by
    have := congrArg (fun l => l[0]?) h
    simpa using this
  exact ⟨by rw [List.getD_eq_getElem?_getD, this]; rfl, (List.getElem?_eq_some_iff.mp this).1⟩
theorem get_drop1 {p q : Pc} {r : List Pc} (h : ps.drop i = p :: q :: r) : ps.getD (i + 1) pcD = q ∧ i + 1 < ps.length := by
  refine getD_dropL (r := r) ?_
  rw [← List.drop_drop, h]; rfl
/-- lines up to one sign further -/
theorem AtP.cnt1 (A : AtP x ps L i a pre) : cnt L (a + 1) = pre.length + nl x a := by
  have lowA := A.low
  by_cases h : a < x.length
  · by_cases hc : x.getD a 0 = 13 ∨ x.getD a 0 = 10
    · have hk : cv (x.getD a 0) = 10 := by rcases hc with h | h <;> rw [h] <;> rfl
      have e := st_line h hc
      obtain ⟨A', _⟩ := A.step h (by rw [e])
      rw [e] at A'
      have hL : ∀ f, L = pre ++ [a] ++ (pcs x f (nx x a)).2 → cnt L (a + 1) = pre.length + 1 := fun f q => by
        rw [q, cnt_app, cnt_app, cnt_all (fun y hy => (by have := lowA y hy; omega)), cnt_all (l := [a]) (fun y hy => (by rw [List.mem_singleton] at hy; omega)), cnt_none (fun y hy => (by
          have := pcs_lines A.hx f (nx x a) A'.le y hy
          have := nx_gt (x := x) (a := a)
          omega))]; rfl
      obtain ⟨f, _, _, q⟩ := A'.ex
      rw [hL f q, nl_10 ((ch_lt h).trans (by rw [hk]))]
    · have n13 : x.getD a 0 ≠ 13 := fun q => hc (.inl q)
      have n10 : x.getD a 0 ≠ 10 := fun q => hc (.inr q)
      rw [nl_of ((ch_lt h).trans (by rw [cv_ne n13])) n10]
      obtain ⟨k1, k2, k3, k4, k5⟩ := step_ok h A.hx
      cases hs : (stepP x a).2.2 with
      | true =>
        rw [(A.stop h hs).2, cnt_app, cnt_all (fun y hy => (by have := lowA y hy; omega)), cnt_none (fun y hy => (by have := k4 n13 n10 y hy; omega))]
      | false =>
        obtain ⟨A', _⟩ := A.step h hs
        obtain ⟨f, _, _, q⟩ := A'.ex
        rw [q, cnt_app, cnt_app, cnt_all (fun y hy => (by have := lowA y hy; omega)), cnt_none (fun y hy => (by have := k4 n13 n10 y hy; omega)), cnt_none (fun y hy => (by
          have := pcs_lines A.hx f _ A'.le y hy; omega))]
  · have ha : a = x.length := by have := A.le; omega
    rw [(A.over ha).2, nl_nil (ch_ge (by omega)), cnt_all (fun y hy => (by have := lowA y hy; omega))]; rfl
end

/-! blanks are passed -/
/-- the piece that opens at a -/
theorem piece_at {x : List Nat} {ps : List Pc} {L : List Nat} {i a : Nat} {pre : List Nat} (A : AtP x ps L i a pre) :
    i < ps.length ∧ (ps.getD i pcD).st = a ∧ ((ps.getD i pcD).k = .blank ↔ ch x a = [32] ∨ ch x a = [9]) ∧ ((ps.getD i pcD).k = .line ↔ ch x a = [10]) := by
  by_cases h : a < x.length
  · rw [ch_lt h]
    have one1 : ∀ {n m : Nat}, n ≠ m → [n] ≠ [m] := fun h q => h (List.cons.inj q).1
    have ncv : ∀ {c : Nat}, cv c = 32 ↔ c = 32 := fun {c} => by
      unfold cv; split
      · rename_i q; subst q; decide
      · exact Iff.rfl
    have ncv9 : ∀ {c : Nat}, cv c = 9 ↔ c = 9 := fun {c} => by
      unfold cv; split
      · rename_i q; subst q; decide
      · exact Iff.rfl
    have ncv10 : ∀ {c : Nat}, cv c = 10 ↔ c = 13 ∨ c = 10 := fun {c} => by
      unfold cv; split
      · rename_i q; subst q; simp
      · rename_i q; simp [q]
    simp only [List.cons.injEq, and_true, ncv, ncv9, ncv10]
    have D : ∃ p r, ps.drop i = p :: r ∧ p.st = a ∧ (p.k = .blank ↔ x.getD a 0 = 32 ∨ x.getD a 0 = 9) ∧ (p.k = .line ↔ x.getD a 0 = 13 ∨ x.getD a 0 = 10) := by
      have D1 : ∃ r, ps.drop i = (stepP x a).1 ++ r := by
        cases hs : (stepP x a).2.2 with
        | true => exact ⟨[], by rw [List.append_nil]; exact (A.stop h hs).1⟩
        | false => exact (A.step h hs).2
      obtain ⟨r, hr⟩ := D1
      by_cases h1 : x.getD a 0 = 32 ∨ x.getD a 0 = 9
      · rw [st_blank h1] at hr
        refine ⟨_, _, hr, rfl, ⟨fun _ => h1, fun _ => rfl⟩, ⟨fun q => (by cases q), fun q => ?_⟩⟩
        exfalso; rcases h1 with h1 | h1 <;> rw [h1] at q <;> simp at q
      by_cases h2 : x.getD a 0 = 40
      · rw [st_lpar h2] at hr
        exact ⟨_, _, hr, rfl, ⟨fun q => (by cases q), fun q => absurd q h1⟩, ⟨fun q => (by cases q), fun q => (by rw [h2] at q; simp at q)⟩⟩
      by_cases h3 : x.getD a 0 = 41
      · rw [st_rpar h3] at hr
        exact ⟨_, _, hr, rfl, ⟨fun q => (by cases q), fun q => absurd q h1⟩, ⟨fun q => (by cases q), fun q => (by rw [h3] at q; simp at q)⟩⟩
      by_cases h4 : x.getD a 0 = 13 ∨ x.getD a 0 = 10
      · rw [st_line h h4] at hr
        exact ⟨_, _, hr, rfl, ⟨fun q => (by cases q), fun q => absurd q h1⟩, ⟨fun _ => h4, fun _ => rfl⟩⟩
      by_cases h5 : x.getD a 0 = 59
      · rw [st_comment h5] at hr
        exact ⟨_, _, hr, rfl, ⟨fun q => (by cases q), fun q => absurd q h1⟩, ⟨fun q => (by cases q), fun q => absurd q h4⟩⟩
      by_cases h6 : x.getD a 0 = 34
      · obtain ⟨_, _, _, _, k7⟩ := bodyF_le (x := x) (i := true) FUEL (a + 1) false [] (by omega) (by have := A.hx; unfold FUEL; omega)
        rw [st_quote h6] at hr
        split at hr
        · exact ⟨_, _, hr, rfl, ⟨fun q => (by cases q), fun q => absurd q h1⟩, ⟨fun q => (by cases q), fun q => absurd q h4⟩⟩
        · refine ⟨_, _, hr, rfl, ⟨fun q => ?_, fun q => absurd q h1⟩, ⟨fun q => ?_, fun q => absurd q h4⟩⟩ <;>
          · dsimp only at q; rw [q] at k7; exfalso; rcases k7 with k | k | k | k
            · cases k.1
            · cases k.1
            · cases k
            · cases k.1
      have hst : stopsIn false (x.getD a 0) = false := by
        simp [-List.getD_eq_getElem?_getD, stopsIn]
        exact ⟨fun q => h1 (.inl q), fun q => h1 (.inr q), fun q => h4 (.inl q), fun q => h4 (.inr q), h5, h2, h3, h6⟩
      obtain ⟨_, _, _, _, k7⟩ := bodyF_le (x := x) (i := false) FUEL a false [] (by omega) (by have := A.hx; unfold FUEL; omega)
      rw [st_word hst] at hr
      split at hr
      · exact ⟨_, _, hr, rfl, ⟨fun q => (by cases q), fun q => absurd q h1⟩, ⟨fun q => (by cases q), fun q => absurd q h4⟩⟩
      · refine ⟨_, _, hr, rfl, ⟨fun q => ?_, fun q => absurd q h1⟩, ⟨fun q => ?_, fun q => absurd q h4⟩⟩ <;>
        · dsimp only at q; rw [q] at k7; exfalso; rcases k7 with k | k | k | k
          · cases k.1
          · cases k.1
          · cases k
          · cases k.1
    obtain ⟨p, r, hr, d1, d2, d3⟩ := D
    obtain ⟨e1, e2⟩ := getD_dropL hr
    rw [e1]
    exact ⟨e2, d1, d2, d3⟩
  · have ha : a = x.length := by have := A.le; omega
    obtain ⟨e1, e2⟩ := getD_dropL (A.over ha).1
    rw [e1, ch_ge (by omega)]
    exact ⟨e2, rfl, ⟨fun q => (by cases q), fun q => (by rcases q with q | q <;> cases q)⟩, ⟨fun q => (by cases q), fun q => (by cases q)⟩⟩
end Mine

end
section
namespace Mine
theorem app_nil {pre : List Nat} : pre ++ [] = pre := List.append_nil _
/-! the gaps -/
theorem skip_past {x : List Nat} {ps : List Pc} {L : List Nat} : ∀ (g f i a : Nat) (pre : List Nat) (t : T) (k : Nat), AtP x ps L i a pre → U x t a (1 + pre.length) → x.length - a < f → x.length - a < g →
    ∃ a' pre', AtP x ps L (past ps t.ml g i) a' pre' ∧ G x (skip x f k t).2 a' (1 + pre'.length) ∧ (skip x f k t).2.ml = t.ml ∧ (skip x f k t).1 + i = k + past ps t.ml g i ∧ i ≤ past ps t.ml g i ∧
      ¬ ((ps.getD (past ps t.ml g i) pcD).k = .blank ∨ (0 < t.ml ∧ (ps.getD (past ps t.ml g i) pcD).k = .line)) ∧ a ≤ a'
  | 0, _, _, _, _, _, _, _, _, _, hg => by omega
  | _ + 1, 0, _, _, _, _, _, _, _, hf, _ => by omega
  | g + 1, f + 1, i, a, pre, t, k, A, hU, hf, hg => by
    obtain ⟨g1, g2, g3, g4⟩ := getc_U hU
    obtain ⟨p1, p2, p3, p4⟩ := piece_at A
    rw [past, skip]
    (try dsimp only)
    by_cases hc : (ps.getD i pcD).k = .blank ∨ (0 < t.ml ∧ (ps.getD i pcD).k = .line)
    · rw [if_pos hc, if_neg (by
        rw [g1, g4]; rintro ⟨q1, q2, q3⟩
        rcases hc with h | ⟨h0, h⟩
        · rcases p3.mp h with h | h
          · exact q1 h
          · exact q2 h
        · rcases q3 with q3 | q3
          · exact q3 (p4.mp h)
          · omega)]
      have ha : a < x.length := by
        apply Classical.byContradiction; intro q
        have e := ch_ge (x := x) (a := a) (by omega)
        rw [e] at p3 p4
        rcases hc with h | ⟨_, h⟩
        · rcases p3.mp h with h | h <;> cases h
        · cases p4.mp h
      have nxt : ∃ pre', AtP x ps L (i + 1) (nx x a) pre' ∧ pre'.length = pre.length + nl x a := by
        rcases hc with h | ⟨_, h⟩
        · have e : x.getD a 0 = 32 ∨ x.getD a 0 = 9 := by
            have := p3.mp h
            rw [ch_lt ha] at this
            unfold cv at this
            split at this
            · rcases this with q | q <;> exact absurd (List.cons.inj q).1 (by decide)
            · rcases this with q | q
              · exact .inl (List.cons.inj q).1
              · exact .inr (List.cons.inj q).1
          have s := st_blank e
          obtain ⟨A', _⟩ := A.step ha (by rw [s])
          rw [s] at A'
          have n13 : x.getD a 0 ≠ 13 := fun q => by rcases e with e | e <;> rw [e] at q <;> cases q
          have n10 : x.getD a 0 ≠ 10 := fun q => by rcases e with e | e <;> rw [e] at q <;> cases q
          rw [nx_ne n13]
          refine ⟨pre, ?_, ?_⟩
          · have : pre ++ [] = pre := List.append_nil _
            dsimp only at A'
            rw [this] at A'
            exact A'
          · rw [nl_of ((ch_lt ha).trans (by rw [cv_ne n13])) n10]; rfl
        · have e : x.getD a 0 = 13 ∨ x.getD a 0 = 10 := by
            have := p4.mp h
            rw [ch_lt ha] at this
            unfold cv at this
            split at this
            · rename_i q; exact .inl q
            · exact .inr (List.cons.inj this).1
          have s := st_line ha e
          obtain ⟨A', _⟩ := A.step ha (by rw [s])
          rw [s] at A'
          exact ⟨_, A', by rw [List.length_append, nl_10 (p4.mp h)]; rfl⟩
      obtain ⟨pre', A', hl⟩ := nxt
      rw [nxx_lt ha] at g2
      have := nx_gt (x := x) (a := a)
      obtain ⟨a2, pre2, r1, r2, r3, r4, r5, r6, r7⟩ := skip_past g f (i + 1) (nx x a) pre' (getc x t).2 (k + 1) A' (.inl ⟨g2, by rw [g3, hl]; omega⟩) (by omega) (by omega)
      rw [g4] at r1 r3 r4 r5 r6
      exact ⟨a2, pre2, r1, r2, r3, by omega, by omega, r6, by omega⟩
    · rw [if_neg hc, if_pos (by
        rw [g1, g4]
        refine ⟨fun q => hc (.inl (p3.mpr (.inl q))), fun q => hc (.inl (p3.mpr (.inr q))), ?_⟩
        by_cases h0 : t.ml = 0
        · exact .inr h0
        · exact .inl fun q => hc (.inr ⟨by omega, p4.mpr q⟩))]
      refine ⟨a, pre, A, ?_, g4, by dsimp only, Nat.le_refl _, hc, Nat.le_refl _⟩
      dsimp only
      rw [g1]
      exact G_ung A.le g2 g3 (getc_Up hU)

section
variable {ps : List Pc} {note : Bool} {g i d s en : Nat} {v : List Nat} {q : Bool}
theorem nL_lpar (e : ps.getD i pcD = ⟨.lpar, s, en, v, q⟩) : nextL ps note (g + 1) i d = nextL ps note g (past ps (d + 1) FUEL (i + 1)) (d + 1) := by rw [nextL, e]; rfl
theorem nL_rpar0 (e : ps.getD i pcD = ⟨.rpar, s, en, v, q⟩) : nextL ps note (g + 1) i 0 = (.synt, i, 0, en) := by rw [nextL, e]; rfl
theorem nL_rpar (e : ps.getD i pcD = ⟨.rpar, s, en, v, q⟩) : nextL ps note (g + 1) i (d + 1) = nextL ps note g (past ps d FUEL (i + 1)) d := by rw [nextL, e]; rfl
theorem nL_close (e : ps.getD i pcD = ⟨.close, s, en, v, q⟩) : nextL ps note (g + 1) i d = nextL ps note g (past ps d FUEL (i + 1)) d := by rw [nextL, e]; rfl
theorem nL_cn (e : ps.getD i pcD = ⟨.comment, s, en, v, q⟩) : nextL ps true (g + 1) i d = (.fine (5, v, false, none), i + 1, d, en + 1) := by rw [nextL, e]; rfl
theorem nL_co (e : ps.getD i pcD = ⟨.comment, s, en, v, q⟩) (h : (ps.getD (i + 1) pcD).k = .over) : nextL ps false (g + 1) i 0 = (.fine (0, [], false, some v), i + 1, 0, en) := by rw [nextL, e, h]; rfl
theorem nL_cl (e : ps.getD i pcD = ⟨.comment, s, en, v, q⟩) (h : (ps.getD (i + 1) pcD).k ≠ .over) : nextL ps false (g + 1) i 0 = (.fine (1, [10], false, some v), i + 2, 0, en + 1) := by
  rw [nextL, e]; dsimp only
  rw [if_pos (by decide), if_neg (by decide), if_neg (by decide), if_neg (fun q => h q.2.2), if_pos ⟨rfl, rfl⟩]
theorem nL_ci (e : ps.getD i pcD = ⟨.comment, s, en, v, q⟩) : nextL ps false (g + 1) i (d + 1) = nextL ps false g (past ps (d + 1) FUEL (i + 1)) (d + 1) := by
  rw [nextL, e]; rfl
theorem nL_ends (e : ps.getD i pcD = ⟨.ends, s, en, v, q⟩) : nextL ps note (g + 1) i d = (.ended, i, d, en) := by rw [nextL, e]; rfl
theorem nL_torn (e : ps.getD i pcD = ⟨.torn, s, en, v, q⟩) : nextL ps note (g + 1) i d = (.synt, i, d, en) := by rw [nextL, e]; rfl
theorem nL_over0 (e : ps.getD i pcD = ⟨.over, s, en, v, q⟩) : nextL ps note (g + 1) i 0 = (.fine (0, [], false, none), i, 0, en) := by rw [nextL, e]; rfl
theorem nL_over (e : ps.getD i pcD = ⟨.over, s, en, v, q⟩) : nextL ps note (g + 1) i (d + 1) = (.synt, i, d + 1, en) := by rw [nextL, e]; rfl
theorem nL_line (e : ps.getD i pcD = ⟨.line, s, en, v, q⟩) : nextL ps note (g + 1) i d = (.fine (1, [10], false, none), i + 1, d, s + 1) := by rw [nextL, e]; rfl
theorem nL_word (e : ps.getD i pcD = ⟨.word, s, en, v, q⟩) : nextL ps note (g + 1) i d = (.fine (3, v, q, none), i + 1, d, en + 1) := by rw [nextL, e]; rfl
theorem nL_quoted (e : ps.getD i pcD = ⟨.quoted, s, en, v, q⟩) : nextL ps note (g + 1) i d = (.fine (4, v, q, none), i + 1, d, en + 1) := by rw [nextL, e]; rfl
end

/-- reader and pieces stand alike -/
noncomputable def StU (x : List Nat) (ps : List Pc) (L : List Nat) (t : T) (i : Nat) : Prop := ∃ a pre, AtP x ps L i a pre ∧ U x t a (1 + pre.length)
noncomputable def StC (x : List Nat) (ps : List Pc) (L : List Nat) (t : T) (i a : Nat) : Prop := ∃ pre s v q, ps.getD i pcD = ⟨.close, s, a + 1, v, q⟩ ∧ i < ps.length ∧ CQ x t a ∧ AtP x ps L (i + 1) (a + 1) pre ∧ t.line = 1 + pre.length
noncomputable def Inv (x : List Nat) (ps : List Pc) (L : List Nat) (t : T) (i d : Nat) : Prop := d = t.ml ∧ (StU x ps L t i ∨ ∃ a, StC x ps L t i a)
noncomputable def Same (x : List Nat) (ps : List Pc) (L : List Nat) (r : Rs × T) (b : Vd × Nat × Nat × Nat) : Prop :=
  r.1.vd = b.1 ∧ r.2.line = 1 + cnt L b.2.2.2 ∧ ∀ s, b.1 = .fine s → Inv x ps L r.2 b.2.1 b.2.2.1

theorem FQ_of {x : List Nat} {t : T} {a : Nat} (h : F x t (a + 1)) (hcr : t.cr = false ∧ t.eof = false) : FQ x { t with q := true } (a + 1) := by
  refine ⟨h.uch, rfl, hcr.2, hcr.1, ?_⟩
  rcases h.at_ with h | h
  · exact h.1
  · rw [hcr.1] at h; cases h.1
theorem F_of_CQ {x : List Nat} {t : T} {a : Nat} (h : CQ x t a) : F x { (getc x t).2 with q := false } (a + 1) ∧ (getc x t).1 = [34] ∧ (getc x t).2.line = t.line ∧ (getc x t).2.ml = t.ml ∧ (getc x t).2.q = true := by
  obtain ⟨at_, uch, ml, q, eof, cr, line⟩ := t
  obtain ⟨h1, h2, rfl, rfl, rfl, rfl, rfl⟩ := h
  exact ⟨⟨rfl, rfl, h1, fun q => (by cases q), .inl ⟨rfl, fun q => (by cases q)⟩⟩, rfl, rfl, rfl, rfl⟩

theorem loop_next {x : List Nat} {ps : List Pc} {L : List Nat} {note : Bool} : ∀ (g f i a : Nat) (t : T), x.length - a < f → x.length - a < g →
    ((∃ pre, AtP x ps L i a pre ∧ U x t a (1 + pre.length) ∧ ¬ ((ps.getD i pcD).k = .blank ∨ (0 < t.ml ∧ (ps.getD i pcD).k = .line))) ∨ StC x ps L t i a) →
    Same x ps L (loop x note f [] 3 false t) (nextL ps note g i t.ml)
  | 0, _, _, _, _, _, hg, _ => by omega
  | _ + 1, 0, _, _, _, hf, _, _ => by omega
  | g + 1, f + 1, i, a, t, hf, hg, h => by
    -- behind a gap
    have go : ∀ (g' i' a' : Nat) (pre' : List Nat) (t' : T), AtP x ps L i' a' pre' → F x t' a' → t'.line = 1 + pre'.length → a < a' → x.length - a' < g' →
        Same x ps L (loop x note f [] 3 false (skip x FUEL 0 t').2) (nextL ps note g (past ps t'.ml g' i') t'.ml) := fun g' i' a' pre' t' A' F' hl ha hg' => by
      obtain ⟨a2, pre2, r1, r2, r3, r4, r5, r6, r7⟩ := skip_past g' FUEL i' a' pre' t' 0 A' (.inl ⟨F', hl⟩) (by have := A'.hx; unfold FUEL; omega) hg'
      have hle := r1.le
      have := loop_next (note := note) g f (past ps t'.ml g' i') a2 (skip x FUEL 0 t').2 (by omega) (by omega) (.inl ⟨pre2, r1, .inr r2, by rw [r3]; exact r6⟩)
      rw [r3] at this
      exact this
    rcases h with ⟨pre, A, hU, hk⟩ | ⟨pre, s, v, q, e, hi, hC, A, hl⟩
    · obtain ⟨g1, g2, g3, g4⟩ := getc_U hU
      obtain ⟨p1, p2, p3, p4⟩ := piece_at A
      have gq := g2.q
      have hx := A.hx
      have c0 := A.cnt0
      have c1 := A.cnt1
      by_cases ha : a < x.length
      · have gt := nx_gt (x := x) (a := a)
        rw [ch_lt ha] at g1 p3 p4
        rw [nxx_lt ha] at g2
        have D1 : ∃ r, ps.drop i = (stepP x a).1 ++ r := by
          cases hs : (stepP x a).2.2 with
          | true => exact ⟨[], by rw [List.append_nil]; exact (A.stop ha hs).1⟩
          | false => exact (A.step ha hs).2
        obtain ⟨r, hr⟩ := D1
        by_cases h1 : x.getD a 0 = 32 ∨ x.getD a 0 = 9
        · exfalso; apply hk; left; apply p3.mpr
          rcases h1 with h1 | h1 <;> rw [h1]
          · exact .inl rfl
          · exact .inr rfl
        by_cases h2 : x.getD a 0 = 40
        · have s := st_lpar h2
          rw [s] at hr
          obtain ⟨e, _⟩ := getD_dropL hr
          obtain ⟨A', _⟩ := A.step ha (by rw [s])
          rw [s] at A'
          dsimp only at A'
          rw [app_nil] at A'
          rw [cv_ne (by rw [h2]; decide), h2] at g1
          rw [nx_ne (by rw [h2]; decide)] at g2
          rw [nl_of ((ch_lt ha).trans (by rw [h2]; rfl)) (show (40 : Nat) ≠ 10 by decide), Nat.add_zero] at g3
          rw [nL_lpar e, loop_first (by rw [g1, gq]; exact .inr (by decide)) (by rw [gq]; intro q; cases q.2) (by decide), if_pos g1]
          have := go FUEL (i + 1) (a + 1) pre { (getc x t).2 with ml := (getc x t).2.ml + 1 } A' (F_ml g2) g3 (by omega) (by unfold FUEL; omega)
          dsimp only at this
          rw [g4] at this ⊢
          exact this
        by_cases h3 : x.getD a 0 = 41
        · have s := st_rpar h3
          rw [s] at hr
          obtain ⟨e, _⟩ := getD_dropL hr
          obtain ⟨A', _⟩ := A.step ha (by rw [s])
          rw [s] at A'
          dsimp only at A'
          rw [app_nil] at A'
          rw [cv_ne (by rw [h3]; decide), h3] at g1
          rw [nx_ne (by rw [h3]; decide)] at g2
          rw [nl_of ((ch_lt ha).trans (by rw [h3]; rfl)) (show (41 : Nat) ≠ 10 by decide), Nat.add_zero] at g3
          rw [loop_first (by rw [g1, gq]; exact .inr (by decide)) (by rw [gq]; intro q; cases q.2) (by decide), if_neg (by rw [g1]; decide), if_pos g1]
          have z := go FUEL (i + 1) (a + 1) pre { (getc x t).2 with ml := (getc x t).2.ml - 1 } A' (F_ml g2) g3 (by omega) (by unfold FUEL; omega)
          dsimp only at z
          rw [g4] at z ⊢
          cases hm : t.ml with
          | zero =>
            rw [if_pos rfl, nL_rpar0 e]
            refine ⟨rfl, ?_, fun s q => (by cases q)⟩
            dsimp only
            have c2 := A'.cnt0
            show _ = 1 + cnt L (a + 1)
            have : lastEn [(⟨.rpar, a, a + 1, [], false⟩ : Pc)] = a + 1 := rfl
            rw [this] at c2
            rw [c2, g3]
          | succ d =>
            rw [hm] at z
            rw [if_neg (by omega), nL_rpar e]
            exact z
        by_cases h4 : x.getD a 0 = 13 ∨ x.getD a 0 = 10
        · have hcv : cv (x.getD a 0) = 10 := by rcases h4 with h | h <;> rw [h] <;> rfl
          have s := st_line ha h4
          rw [s] at hr
          obtain ⟨e, _⟩ := getD_dropL hr
          obtain ⟨A', _⟩ := A.step ha (by rw [s])
          rw [s] at A'
          rw [hcv] at g1
          rw [nl_10 ((ch_lt ha).trans (by rw [hcv]))] at g3 c1
          rw [nL_line e, loop_first (by rw [g1, gq]; exact .inr (by decide)) (by rw [gq]; intro q; cases q.2) (by decide), if_neg (by rw [g1]; decide), if_neg (by rw [g1]; decide), if_neg (by rw [g1]; decide), if_pos g1]
          refine ⟨rfl, ?_, fun s _ => ⟨g4.symm, .inl ⟨_, _, A', .inl ⟨g2, ?_⟩⟩⟩⟩
          · dsimp only; rw [c1, g3]; omega
          · dsimp only; rw [g3, List.length_append]; simp; omega
        have n13 : x.getD a 0 ≠ 13 := fun q => h4 (.inl q)
        have n10 : x.getD a 0 ≠ 10 := fun q => h4 (.inr q)
        rw [cv_ne n13] at g1
        rw [nx_ne n13] at g2
        rw [nl_of ((ch_lt ha).trans (by rw [cv_ne n13])) n10, Nat.add_zero] at g3
        by_cases h5 : x.getD a 0 = 59
        · have s := st_comment h5
          rw [s] at hr
          obtain ⟨e, _⟩ := getD_dropL hr
          obtain ⟨A', _⟩ := A.step ha (by rw [s])
          rw [s] at A'
          dsimp only at A'
          rw [app_nil] at A'
          have le1 : lastEn [(⟨.comment, a, comStop x FUEL (a + 1), seg x (a + 1) (comStop x FUEL (a + 1)), false⟩ : Pc)] = comStop x FUEL (a + 1) := rfl
          rw [le1] at A'
          replace A' : AtP x ps L (i + 1) (comStop x FUEL (a + 1)) pre := A'
          rw [h5] at g1
          obtain ⟨m1, m2, m3, m4, m5, m6, m7, m8⟩ := comm_ok FUEL FUEL (a + 1) [] (getc x t).2 (by unfold FUEL; omega) (by unfold FUEL; omega) g2
          rw [List.nil_append] at m4
          rw [loop_first (by rw [g1, gq]; exact .inr (by decide)) (by rw [gq]; intro q; cases q.2) (by decide), if_neg (by rw [g1]; decide), if_neg (by rw [g1]; decide), if_neg (by rw [g1]; decide), if_neg (by rw [g1]; decide), if_pos g1]
          generalize comm x FUEL [] (getc x t).2 = M at *
          generalize hE : comStop x FUEL (a + 1) = E at *
          obtain ⟨b1, b2, b3, b4⟩ := piece_at A'
          have d0 := A'.cnt0
          have d1 := A'.cnt1
          cases note with
          | true =>
            rw [if_pos rfl, nL_cn e]
            refine ⟨?_, ?_, fun s _ => ⟨by rw [show (ung M.2.2 M.2.1).ml = M.2.2.ml from rfl, m8, g4], .inl ⟨_, _, A', .inr ?_⟩⟩⟩
            · dsimp only; rw [m4]; rfl
            · dsimp only; rw [d1]; show M.2.2.line = _; rw [m7, g3]; omega
            · dsimp only; rw [m5]
              exact G_ung m2 m6 (by rw [m7, g3]) (fun q => by
                exfalso
                have hE2 : E < x.length := getD_lt (by rw [q]; decide)
                rcases m3 hE2 with z | z <;> rw [z] at q <;> cases q)
          | false =>
            rw [if_neg (by decide)]
            by_cases hEl : E < x.length
            · have hcv : ch x E = [10] := by
                rw [ch_lt hEl]; rcases m3 hEl with z | z <;> rw [z] <;> rfl
              have s2 := st_line hEl (m3 hEl)
              obtain ⟨A2, _⟩ := A'.step hEl (by rw [s2])
              rw [s2] at A2
              have hline := b4.mpr hcv
              rw [nxx_lt hEl] at m6
              rw [nl_10 hcv] at m7 d1
              rw [if_neg (by rw [m5, hcv]; decide)]
              have gt2 := nx_gt (x := x) (a := E)
              cases hm : t.ml with
              | zero =>
                rw [if_neg (by rw [m8, g4, hm]; exact fun q => q rfl), nL_cl e (by rw [hline]; decide)]
                refine ⟨?_, ?_, fun s _ => ⟨by rw [m8, g4, hm], .inl ⟨_, _, A2, .inl ⟨m6, ?_⟩⟩⟩⟩
                · dsimp only; rw [m4]; rfl
                · dsimp only; rw [d1, m7, g3]; omega
                · dsimp only; rw [m7, g3, List.length_append]; simp; omega
              | succ d =>
                rw [if_pos (by rw [m8, g4, hm]; omega), nL_ci e]
                have hp : past ps (d + 1) FUEL (i + 1) = past ps (d + 1) 199 (i + 1 + 1) := by
                  show past ps (d + 1) (199 + 1) (i + 1) = _
                  rw [past, if_pos (.inr ⟨by omega, hline⟩)]
                rw [hp]
                have z := go 199 (i + 1 + 1) (nx x E) (pre ++ [E]) M.2.2 A2 m6 (by rw [m7, g3, List.length_append]; simp; omega) (by omega) (by omega)
                rw [m8, g4, hm] at z
                exact z
            · have hEe : E = x.length := by omega
              have hch : ch x E = [] := ch_ge (by omega)
              obtain ⟨o1, o2⟩ := A'.over hEe
              obtain ⟨e2, _⟩ := getD_dropL o1
              rw [nl_nil hch] at m7
              rw [nxx_ge (by omega)] at m6
              rw [if_pos (by rw [m5, hch])]
              cases hm : t.ml with
              | zero =>
                rw [if_neg (by rw [m8, g4, hm]; exact fun q => q rfl), nL_co e (by rw [e2])]
                refine ⟨?_, ?_, fun s _ => ⟨by rw [m8, g4, hm], .inl ⟨_, _, A', .inl ⟨m6, ?_⟩⟩⟩⟩
                · dsimp only; rw [m4]; rfl
                · dsimp only; rw [d0, m7, g3]; omega
                · dsimp only; rw [m7, g3]; omega
              | succ d =>
                rw [if_pos (by rw [m8, g4, hm]; omega), nL_ci e]
                have hp : past ps (d + 1) FUEL (i + 1) = i + 1 := by
                  show past ps (d + 1) (199 + 1) (i + 1) = _
                  rw [past, if_neg]; rw [e2]; rintro (q | ⟨_, q⟩) <;> cases q
                obtain _ | g := g
                · omega
                rw [hp, nL_over e2]
                refine ⟨rfl, ?_, fun s q => (by cases q)⟩
                dsimp only; rw [d0, m7, g3]; omega
        by_cases h6 : x.getD a 0 = 34
        · have s := st_quote h6
          obtain ⟨k1, k2, ⟨l2, k3, k4, _⟩, _, k7⟩ := bodyF_le (x := x) (i := true) FUEL (a + 1) false [] (by omega) (by unfold FUEL; omega)
          rw [h6] at g1
          rw [loop_first (by rw [g1, gq]; exact .inr (by decide)) (by rw [gq]; intro q; cases q.2) (by decide), if_neg (by rw [g1]; decide), if_neg (by rw [g1]; decide), if_pos g1, if_pos gq]
          have fq := FQ_of g2 (getc_Up hU h6)
          obtain ⟨l3, e1, e2, e3, e4, e5⟩ := loop_quote (note := note) f FUEL (a + 1) [] false [] { (getc x t).2 with q := true } _ _ rfl rfl (by omega) (by unfold FUEL; omega) fq (by omega)
          generalize bodyF x true FUEL (a + 1) false [] = B at *
          generalize loop x note f [] 4 false { (getc x t).2 with q := true } = R at *
          rw [List.nil_append] at e1
          have lowA := A.low
          rcases e5 with ⟨q1, q2, q3, q4, q5⟩ | ⟨q1, q2, q3⟩ | ⟨q1, q2, q3⟩
          · rw [if_pos q1] at s
            rw [s] at hr
            obtain ⟨d1, _⟩ := getD_dropL hr
            obtain ⟨d2, d3⟩ := get_drop1 hr
            obtain ⟨A', _⟩ := A.step ha (by rw [s])
            rw [s] at A'
            dsimp only at A'
            rw [e1] at A'
            have le1 : lastEn [(⟨.quoted, a, B.2.1, seg x (a + 1) B.2.1, B.2.2.1⟩ : Pc), ⟨.close, B.2.1, B.2.1 + 1, [], false⟩] = B.2.1 + 1 := rfl
            rw [le1] at A'
            have c2 := A'.cnt0
            rw [nL_quoted d1]
            refine ⟨by rw [q2]; rfl, ?_, fun s _ => ⟨by rw [q5]; exact g4.symm, .inr ⟨B.2.1, _, _, _, _, d2, d3, q3, A', ?_⟩⟩⟩
            · dsimp only; rw [c2, q4, List.length_append]; dsimp only; rw [g3]; omega
            · (try (try dsimp only)); rw [q4, List.length_append]; (try (try dsimp only)); rw [g3]; omega
          · rw [if_neg (by rw [q1]; decide)] at s
            have st : (stepP x a).2.2 = true := by rw [s]; simp [q1]
            obtain ⟨z1, z2⟩ := A.stop ha st
            rw [s] at z1 z2
            obtain ⟨d1, _⟩ := getD_dropL z1
            rw [q1] at d1
            rw [nL_ends d1]
            refine ⟨by rw [q2]; rfl, ?_, fun s q => (by cases q)⟩
            (try dsimp only at z2 ⊢)
            rw [z2, e1, cnt_app, cnt_all (fun y hy => (by have := lowA y hy; omega)), cnt_all (fun y hy => (e4 y hy).2), q3]; dsimp only; rw [g3]; omega
          · rw [if_neg (by rw [q1]; decide)] at s
            have st : (stepP x a).2.2 = true := by rw [s]; simp [q1]
            obtain ⟨z1, z2⟩ := A.stop ha st
            rw [s] at z1 z2
            obtain ⟨d1, _⟩ := getD_dropL z1
            rw [q1] at d1
            rw [nL_torn d1]
            refine ⟨by rw [q2]; rfl, ?_, fun s q => (by cases q)⟩
            (try dsimp only at z2 ⊢)
            rw [z2, e1, cnt_app, cnt_all (fun y hy => (by have := lowA y hy; omega)), cnt_all (fun y hy => (e4 y hy).2), q3]; dsimp only; rw [g3]; omega
        have hst : stopsIn false (x.getD a 0) = false := by
          simp [-List.getD_eq_getElem?_getD, stopsIn]
          exact ⟨fun q => h1 (.inl q), fun q => h1 (.inr q), n13, n10, h5, h2, h3, h6⟩
        have s := st_word hst
        obtain ⟨l3, e1, e2, e3, e4, _, e5⟩ := loop_word (note := note) (f + 1) FUEL a [] false [] t _ _ _ rfl rfl hf (by unfold FUEL; omega) hU (.inr ⟨ha, hst⟩)
        generalize bodyF x false FUEL a false [] = B at *
        generalize loop x note (f + 1) [] 3 false t = R at *
        rw [List.nil_append] at e1
        have lowA := A.low
        rcases e5 with ⟨q1, q2, q3, q4, q5⟩ | ⟨q1, q2, q3⟩
        · rw [if_neg (by rw [q1]; decide)] at s
          have st : (stepP x a).2.2 = false := by rw [s]; simp [q1]
          rw [s] at hr
          obtain ⟨d1, _⟩ := getD_dropL hr
          obtain ⟨A', _⟩ := A.step ha st
          rw [s] at A'
          dsimp only at A'
          rw [e1, q2, app_nil] at A'
          have le1 : lastEn [(⟨B.1, a, B.2.1, seg x a B.2.1, B.2.2.1⟩ : Pc)] = B.2.1 := rfl
          rw [le1] at A'
          have c2 := A'.cnt1
          rw [q1] at d1
          rw [nL_word d1]
          refine ⟨by rw [q3]; rfl, ?_, fun s _ => ⟨q5.symm, .inl ⟨_, _, A', .inr q4⟩⟩⟩
          dsimp only; rw [c2, q4.line]; omega
        · rw [if_neg (by rw [q1]; decide)] at s
          have st : (stepP x a).2.2 = true := by rw [s]; simp [q1]
          obtain ⟨z1, z2⟩ := A.stop ha st
          rw [s] at z1 z2
          obtain ⟨d1, _⟩ := getD_dropL z1
          rw [q1] at d1
          rw [nL_ends d1]
          refine ⟨by rw [q2]; rfl, ?_, fun s q => (by cases q)⟩
          (try dsimp only at z2 ⊢)
          rw [z2, e1, cnt_app, cnt_all (fun y hy => (by have := lowA y hy; omega)), cnt_all (fun y hy => (e4 y hy).2), q3]; omega
      · have hae : a = x.length := by have := A.le; omega
        have hch : ch x a = [] := ch_ge (by omega)
        obtain ⟨o1, o2⟩ := A.over hae
        obtain ⟨e, _⟩ := getD_dropL o1
        rw [hch] at g1
        rw [nl_nil hch, Nat.add_zero] at g3
        rw [nxx_ge (by omega)] at g2
        rw [loop_first (.inl g1) (by rw [gq]; intro q; cases q.2) (by decide), if_neg (by rw [g1]; decide), if_neg (by rw [g1]; decide), if_neg (by rw [g1]; decide), if_neg (by rw [g1]; decide), if_neg (by rw [g1]; decide), g1]
        unfold fin
        rw [if_pos ⟨rfl, by decide⟩]
        cases hm : t.ml with
        | zero =>
          rw [if_neg (by rw [g4, hm]; exact fun q => q rfl), nL_over0 e]
          exact ⟨rfl, by dsimp only; rw [c0, g3], fun s _ => ⟨by rw [g4, hm], .inl ⟨_, _, A, .inl ⟨g2, g3⟩⟩⟩⟩
        | succ d =>
          rw [if_pos (by rw [g4, hm]; omega), nL_over e]
          exact ⟨rfl, by dsimp only; rw [c0, g3], fun s q => (by cases q)⟩
    · obtain ⟨f1, f2, f3, f4, f5⟩ := F_of_CQ hC
      have := hC.lt
      have hx := A.hx
      rw [nL_close e, loop_first (by rw [f2, f5]; exact .inr (by decide)) (by rw [f2]; intro q; cases q.1) (by decide), if_neg (by rw [f2]; decide), if_neg (by rw [f2]; decide), if_pos f2, if_neg (by rw [f5]; decide)]
      have z := go FUEL (i + 1) (a + 1) pre { (getc x t).2 with q := false } A f1 (by dsimp only; rw [f3, hl]) (by omega) (by unfold FUEL; omega)
      dsimp only at z ⊢
      rw [f4] at z ⊢
      exact z

/-- one get -/
theorem get_next {x : List Nat} {ps : List Pc} {L : List Nat} {lead note : Bool} {t : T} {i d : Nat} (h : Inv x ps L t i d) : Same x ps L (getP x lead note t) (nextP ps lead note i d) := by
  obtain ⟨rfl, h⟩ := h
  rcases h with ⟨a, pre, A, hU⟩ | ⟨a, h⟩
  · have hx := A.hx
    obtain ⟨a2, pre2, r1, r2, r3, r4, r5, r6, r7⟩ := skip_past FUEL FUEL i a pre t 0 A hU (by unfold FUEL; omega) (by unfold FUEL; omega)
    unfold getP nextP
    dsimp only
    have iff1 : (lead = true ∧ 0 < (skip x FUEL 0 t).1) ↔ (lead = true ∧ i < past ps t.ml FUEL i) := by
      constructor <;> rintro ⟨q1, q2⟩ <;> exact ⟨q1, by omega⟩
    by_cases hl : lead = true ∧ i < past ps t.ml FUEL i
    · rw [if_pos hl, if_pos (iff1.mpr hl)]
      obtain ⟨p1, p2, _⟩ := piece_at r1
      refine ⟨rfl, ?_, fun s _ => ⟨r3.symm, .inl ⟨_, _, r1, .inr r2⟩⟩⟩
      dsimp only
      rw [p2, r1.cnt1, r2.line]; omega
    · rw [if_neg hl, if_neg (fun q => hl (iff1.mp q))]
      have := loop_next (note := note) FUEL FUEL (past ps t.ml FUEL i) a2 (skip x FUEL 0 t).2 (by unfold FUEL; omega) (by unfold FUEL; omega) (.inl ⟨pre2, r1, .inr r2, by rw [r3]; exact r6⟩)
      rw [r3] at this
      exact this
  · obtain ⟨pre, s, v, q, e, hi, hC, A, hl⟩ := id h
    have hx := A.hx
    obtain ⟨f1, f2, f3, f4, f5⟩ := F_of_CQ hC
    have hp : past ps t.ml FUEL i = i := by
      show past ps t.ml (199 + 1) i = _
      rw [past, if_neg]; rw [e]; rintro (q | ⟨_, q⟩) <;> cases q
    have hs : skip x FUEL 0 t = (0, t) := by
      show skip x (199 + 1) 0 t = _
      rw [skip]; (try dsimp only)
      rw [if_pos (by rw [f2]; exact ⟨by decide, by decide, .inl (by decide)⟩)]
      obtain ⟨at_, uch, ml, q, eof, cr, line⟩ := t
      obtain ⟨_, _, rfl, rfl, rfl, rfl, rfl⟩ := hC
      rfl
    unfold getP nextP
    dsimp only
    rw [hp, hs, if_neg (fun q => absurd q.2 (Nat.lt_irrefl _)), if_neg (fun q => absurd q.2 (Nat.lt_irrefl _))]
    exact loop_next (note := note) FUEL FUEL i a t (by unfold FUEL; omega) (by unfold FUEL; omega) (.inr h)
theorem inv_start {x : List Nat} (hx : x.length ≤ 40) : Inv x (pcs x FUEL 0).1 (pcs x FUEL 0).2 T0 0 0 :=
  ⟨rfl, .inl ⟨0, [], ⟨hx, Nat.zero_le _, ⟨FUEL, by unfold FUEL; omega, rfl, rfl⟩, fun y hy => (by cases hy)⟩, .inl ⟨⟨rfl, rfl, Nat.zero_le _, fun q => (by cases q), .inl ⟨rfl, fun q => (by cases q)⟩⟩, rfl⟩⟩⟩
theorem inv_lt {x : List Nat} {ps : List Pc} {L : List Nat} {t : T} {i d : Nat} (h : Inv x ps L t i d) : i < ps.length := by
  obtain ⟨_, ⟨a, pre, A, _⟩ | ⟨a, pre, s, v, q, _, h, _⟩⟩ := h
  · exact (piece_at A).1
  · exact h
theorem inv_uch {x : List Nat} {ps : List Pc} {L : List Nat} {t : T} {i d : Nat} (h : Inv x ps L t i d) : ∀ c, t.uch = some c → c.length ≤ 1 := by
  intro c e
  obtain ⟨_, ⟨a, pre, A, hF | hG⟩ | ⟨a, pre, s, v, q, _, _, hC, _⟩⟩ := h
  · rw [hF.1.uch] at e; cases e
  · rw [hG.uch] at e; cases e; unfold ch; split <;> simp
  · rw [hC.uch] at e; cases e; simp
end Mine

end
section
namespace Mine
/-! sizes, for the walk -/
theorem bodyF_cnt {x : List Nat} {i : Bool} : ∀ (g s : Nat) (e : Bool) (l : List Nat), s ≤ (bodyF x i g s e l).2.1 ∧ (bodyF x i g s e l).2.2.2.length ≤ l.length + ((bodyF x i g s e l).2.1 - s)
  | 0, s, e, l => ⟨Nat.le_refl _, by show l.length ≤ _; omega⟩
  | g + 1, s, e, l => by
    rw [bodyF]
    split
    · split
      · split
        · exact ⟨by show s ≤ s + 1; omega, by show l.length ≤ l.length + (s + 1 - s); omega⟩
        · split
          · exact ⟨by show s ≤ s + 2; omega, by show (l ++ [s + 1]).length ≤ l.length + (s + 2 - s); rw [List.length_append]; simp <;> omega⟩
          · have := bodyF_cnt (x := x) (i := i) g (s + 2) true (if x.getD (s + 1) 0 = 10 then l ++ [s + 1] else l)
            refine ⟨by omega, ?_⟩
            have h : (if x.getD (s + 1) 0 = 10 then l ++ [s + 1] else l).length ≤ l.length + 1 := by split <;> simp
            omega
      · have := bodyF_cnt (x := x) (i := i) g (s + 1) e l
        omega
    · split
      · exact ⟨Nat.le_refl _, by show l.length ≤ _; omega⟩
      · split
        · exact ⟨by show s ≤ s + 1; omega, by show (l ++ [s]).length ≤ l.length + (s + 1 - s); rw [List.length_append]; simp <;> omega⟩
        · exact ⟨Nat.le_refl _, by show l.length ≤ _; omega⟩
noncomputable def Kd.last : Kd → Bool
  | .ends => true
  | .torn => true
  | .over => true
  | _ => false
theorem seg_len {x : List Nat} {a b : Nat} : (seg x a b).length ≤ x.length := by unfold seg; rw [List.length_take, List.length_drop]; omega
/-- the pieces of one step: how many, how far, and which may be the last -/
theorem step_sz {x : List Nat} {a : Nat} (ha : a < x.length) (hx : x.length ≤ 40) : (stepP x a).1.length ≤ 2 * (lastEn (stepP x a).1 - a) ∧ (stepP x a).2.1.length ≤ lastEn (stepP x a).1 - a ∧
    (∀ p ∈ (stepP x a).1, p.st ≤ 40 ∧ p.en ≤ 40 ∧ p.val.length ≤ 40) ∧ ((stepP x a).2.2 = true → ∃ p, (stepP x a).1 = [p] ∧ p.k.last = true) ∧ ((stepP x a).2.2 = false → ∀ p ∈ (stepP x a).1, p.k.last = false) := by
  have sl : ∀ b c, (seg x b c).length ≤ 40 := fun b c => Nat.le_trans seg_len hx
  by_cases h1 : x.getD a 0 = 32 ∨ x.getD a 0 = 9
  · rw [st_blank h1]; exact ⟨by show 1 ≤ 2 * (a + 1 - a); omega, Nat.zero_le _, fun p hp => (by rw [List.mem_singleton] at hp; subst hp; exact ⟨by dsimp only; omega, by dsimp only; omega, Nat.zero_le _⟩), fun q => (by cases q), fun _ p hp => (by rw [List.mem_singleton] at hp; subst hp; rfl)⟩
  by_cases h2 : x.getD a 0 = 40
  · rw [st_lpar h2]; exact ⟨by show 1 ≤ 2 * (a + 1 - a); omega, Nat.zero_le _, fun p hp => (by rw [List.mem_singleton] at hp; subst hp; exact ⟨by dsimp only; omega, by dsimp only; omega, Nat.zero_le _⟩), fun q => (by cases q), fun _ p hp => (by rw [List.mem_singleton] at hp; subst hp; rfl)⟩
  by_cases h3 : x.getD a 0 = 41
  · rw [st_rpar h3]; exact ⟨by show 1 ≤ 2 * (a + 1 - a); omega, Nat.zero_le _, fun p hp => (by rw [List.mem_singleton] at hp; subst hp; exact ⟨by dsimp only; omega, by dsimp only; omega, Nat.zero_le _⟩), fun q => (by cases q), fun _ p hp => (by rw [List.mem_singleton] at hp; subst hp; rfl)⟩
  by_cases h4 : x.getD a 0 = 13 ∨ x.getD a 0 = 10
  · rw [st_line ha h4]
    have g1 := nx_gt (x := x) (a := a)
    have g2 := nx_le ha
    exact ⟨by show 1 ≤ 2 * (nx x a - a); omega, by show 1 ≤ nx x a - a; omega, fun p hp => (by rw [List.mem_singleton] at hp; subst hp; exact ⟨by dsimp only; omega, by dsimp only; omega, Nat.zero_le _⟩), fun q => (by cases q), fun _ p hp => (by rw [List.mem_singleton] at hp; subst hp; rfl)⟩
  have n13 : x.getD a 0 ≠ 13 := fun q => h4 (.inl q)
  have n10 : x.getD a 0 ≠ 10 := fun q => h4 (.inr q)
  by_cases h5 : x.getD a 0 = 59
  · rw [st_comment h5]
    have := comStop_le (x := x) FUEL (a + 1) (by omega)
    exact ⟨by show 1 ≤ 2 * (comStop x FUEL (a + 1) - a); omega, Nat.zero_le _, fun p hp => (by rw [List.mem_singleton] at hp; subst hp; exact ⟨by dsimp only; omega, by dsimp only; omega, sl _ _⟩), fun q => (by cases q), fun _ p hp => (by rw [List.mem_singleton] at hp; subst hp; rfl)⟩
  by_cases h6 : x.getD a 0 = 34
  · rw [st_quote h6]
    obtain ⟨k1, k2, _, _, k7⟩ := bodyF_le (x := x) (i := true) FUEL (a + 1) false [] (by omega) (by unfold FUEL; omega)
    have kc := (bodyF_cnt (x := x) (i := true) FUEL (a + 1) false []).2
    rw [List.length_nil] at kc
    split
    · rename_i hq
      have k8 : (bodyF x true FUEL (a + 1) false []).2.1 < x.length := by
        rw [hq] at k7
        rcases k7 with k | k | k | k
        · exact k.2.2.1
        · cases k.1
        · cases k
        · cases k.1
      refine ⟨by show 2 ≤ 2 * ((bodyF x true FUEL (a + 1) false []).2.1 + 1 - a); omega, by show (bodyF x true FUEL (a + 1) false []).2.2.2.length ≤ (bodyF x true FUEL (a + 1) false []).2.1 + 1 - a; omega, fun p hp => ?_, fun q => (by cases q), fun _ p hp => ?_⟩
      · rcases List.mem_cons.mp hp with rfl | hp
        · exact ⟨by dsimp only; omega, by dsimp only; omega, sl _ _⟩
        · rw [List.mem_singleton] at hp; subst hp; exact ⟨by dsimp only; omega, by dsimp only; omega, Nat.zero_le _⟩
      · rcases List.mem_cons.mp hp with rfl | hp
        · rfl
        · rw [List.mem_singleton] at hp; subst hp; rfl
    · rename_i hq
      refine ⟨by show 1 ≤ 2 * ((bodyF x true FUEL (a + 1) false []).2.1 - a); omega, by show (bodyF x true FUEL (a + 1) false []).2.2.2.length ≤ (bodyF x true FUEL (a + 1) false []).2.1 - a; omega, fun p hp => ?_, fun q => ⟨_, rfl, ?_⟩, fun q p hp => ?_⟩
      · rw [List.mem_singleton] at hp; subst hp; exact ⟨by dsimp only; omega, by dsimp only; omega, sl _ _⟩
      · simp only [decide_eq_true_eq] at q; dsimp only; rcases q with q | q <;> rw [q] <;> rfl
      · exfalso
        simp only [decide_eq_false_iff_not] at q
        rcases k7 with k | k | k | k
        · exact hq k.1
        · cases k.2
        · exact q (.inl k)
        · exact q (.inr k.1)
  have hst : stopsIn false (x.getD a 0) = false := by
    simp [-List.getD_eq_getElem?_getD, stopsIn]
    exact ⟨fun q => h1 (.inl q), fun q => h1 (.inr q), n13, n10, h5, h2, h3, h6⟩
  rw [st_word hst]
  obtain ⟨k1, k2, _, k6, k7⟩ := bodyF_le (x := x) (i := false) FUEL a false [] (by omega) (by unfold FUEL; omega)
  have kc := (bodyF_cnt (x := x) (i := false) FUEL a false []).2
  rw [List.length_nil] at kc
  rw [if_neg (fun hq => by rw [hq] at k7; rcases k7 with k | k | k | k; cases k.2.1; cases k.1; cases k; cases k.1)]
  have k6' := k6 ha hst
  refine ⟨by show 1 ≤ 2 * ((bodyF x false FUEL a false []).2.1 - a); omega, by show (bodyF x false FUEL a false []).2.2.2.length ≤ (bodyF x false FUEL a false []).2.1 - a; omega, fun p hp => ?_, fun q => ⟨_, rfl, ?_⟩, fun q p hp => ?_⟩
  · rw [List.mem_singleton] at hp; subst hp; exact ⟨by dsimp only; omega, by dsimp only; omega, sl _ _⟩
  · simp only [decide_eq_true_eq] at q; dsimp only; rcases q with q | q <;> rw [q] <;> rfl
  · rw [List.mem_singleton] at hp; subst hp
    simp only [decide_eq_false_iff_not] at q
    rcases k7 with k | k | k | k
    · cases k.2.1
    · dsimp only; rw [k.1]; rfl
    · exact absurd (.inl k) q
    · cases k.2
/-- a cut: all but the last piece may be followed -/
noncomputable def Good : List Pc → Prop
  | [] => False
  | [p] => p.k.last = true
  | p :: q :: r => p.k.last = false ∧ Good (q :: r)
theorem good_cons {p : Pc} {r : List Pc} (h : p.k.last = false) (g : Good r) : Good (p :: r) := by
  cases r with
  | nil => exact g.elim
  | cons q r => exact ⟨h, g⟩
theorem good_app {l r : List Pc} (h : ∀ p ∈ l, p.k.last = false) (g : Good r) : Good (l ++ r) := by
  induction l with
  | nil => exact g
  | cons p l ih => exact good_cons (h p List.mem_cons_self) (ih fun q hq => h q (List.mem_cons_of_mem _ hq))
theorem good_at : ∀ {ps : List Pc} {i : Nat}, Good ps → i < ps.length → (ps.getD i pcD).k.last = false → i + 1 < ps.length
  | [], _, g, _, _ => g.elim
  | [p], i, g, hi, h => by
    have : i = 0 := by simp at hi; omega
    subst this
    have g' : p.k.last = true := g
    have h' : p.k.last = false := h
    rw [g'] at h'; cases h'
  | p :: q :: r, 0, g, hi, h => by simp
  | p :: q :: r, i + 1, g, hi, h => by
    have := good_at (ps := q :: r) (i := i) g.2 (by simpa using hi) h
    simp at this ⊢; omega
theorem pcs_sz {x : List Nat} (hx : x.length ≤ 40) : ∀ (f a : Nat), a ≤ x.length → x.length - a < f → (pcs x f a).1.length ≤ 2 * (x.length - a) + 1 ∧ (pcs x f a).2.length ≤ x.length - a ∧
    (∀ p ∈ (pcs x f a).1, p.st ≤ 40 ∧ p.en ≤ 40 ∧ p.val.length ≤ 40) ∧ Good (pcs x f a).1
  | 0, _, _, h => by omega
  | f + 1, a, hle, hf => by
    rw [pcs]
    by_cases h : a < x.length
    · obtain ⟨k1, k2, k3, k4, k5⟩ := step_ok h hx
      obtain ⟨s1, s2, s3, s4, s5⟩ := step_sz h hx
      rw [if_pos h]
      dsimp only
      cases hs : (stepP x a).2.2 with
      | true =>
        rw [if_pos rfl]
        obtain ⟨p, e, hp⟩ := s4 hs
        exact ⟨by dsimp only; omega, by dsimp only; omega, s3, by dsimp only; rw [e]; exact hp⟩
      | false =>
        rw [if_neg (by decide)]
        obtain ⟨r1, r2, r3, r4⟩ := pcs_sz hx f (lastEn (stepP x a).1) k2 (by omega)
        refine ⟨by dsimp only; rw [List.length_append]; omega, by dsimp only; rw [List.length_append]; omega, fun p hp => ?_, good_app (s5 hs) r4⟩
        rcases List.mem_append.mp hp with hp | hp
        · exact s3 p hp
        · exact r3 p hp
    · rw [if_neg h]
      exact ⟨by dsimp only; show 1 ≤ _; omega, Nat.zero_le _, fun p hp => (by rw [List.mem_singleton] at hp; subst hp; exact ⟨by dsimp only; omega, by dsimp only; omega, Nat.zero_le _⟩), rfl⟩
end Mine

end
section
set_option linter.all false
namespace Mine
/-! the values that the law's reckoning says are made of the text's signs -/
noncomputable def Lo (l : List Nat) : Prop := ∀ n ∈ l, n < 256
theorem Lo.nil : Lo [] := fun _ h => by cases h
theorem seg_lo {x : List Nat} {a b : Nat} (h : Lo x) : Lo (seg x a b) := fun n hn => h n (List.mem_of_mem_drop (List.mem_of_mem_take hn))
theorem lo_of {x : List Nat} (h : ∀ i, x.getD i 0 < 256) : Lo x := fun n hn => by
  obtain ⟨i, hi, e⟩ := List.mem_iff_getElem.mp hn
  have := h i
  rw [List.getD_eq_getElem?_getD, List.getElem?_eq_getElem hi] at this
  simpa [e] using this
theorem step_lo {x : List Nat} {a : Nat} (h : Lo x) : ∀ p ∈ (stepP x a).1, Lo p.val := by
  unfold stepP
  dsimp only
  split
  · simp; exact Lo.nil
  split
  · simp; exact Lo.nil
  split
  · simp; exact Lo.nil
  split
  · simp; exact Lo.nil
  split
  · simp; exact seg_lo h
  generalize bodyF x (x.getD a 0 == 34) FUEL (if (x.getD a 0 == 34) = true then a + 1 else a) false [] = b
  intro p hp
  split at hp
  · simp at hp; rcases hp with rfl | rfl
    · exact seg_lo h
    · exact Lo.nil
  · simp at hp; subst hp; exact seg_lo h
theorem pcs_lo {x : List Nat} (h : Lo x) : ∀ (f a : Nat), ∀ p ∈ (pcs x f a).1, Lo p.val
  | 0, _, p, hp => by cases hp
  | f + 1, a, p, hp => by
    rw [pcs] at hp
    dsimp only at hp
    split at hp
    · split at hp
      · exact step_lo h p hp
      · rcases List.mem_append.mp hp with q | q
        · exact step_lo h p q
        · exact pcs_lo h f _ p q
    · simp at hp; subst hp; exact Lo.nil
noncomputable def LoS (s : Sd) : Prop := s.1 ≤ 6 ∧ Lo s.2.1 ∧ ∀ l, s.2.2.2 = some l → Lo l
noncomputable def LoV (v : Vd) : Prop := ∀ s, v = .fine s → LoS s
theorem lo_getD {ps : List Pc} (h : ∀ p ∈ ps, Lo p.val) (i : Nat) : Lo (ps.getD i pcD).val := by
  rw [List.getD_eq_getElem?_getD]
  by_cases hi : i < ps.length
  · rw [List.getElem?_eq_getElem hi]; exact h _ (List.getElem_mem hi)
  · rw [List.getElem?_eq_none (by omega)]; exact Lo.nil
theorem nextL_lo {ps : List Pc} {note : Bool} (h : ∀ p ∈ ps, Lo p.val) : ∀ (f i d : Nat), LoV (nextL ps note f i d).1
  | 0, i, d => fun s e => by cases e
  | f + 1, i, d => by
    have hv := lo_getD h i
    have h10 : Lo [10] := fun n hn => by simp at hn; omega
    rw [nextL]
    dsimp only
    split
    · split
      · intro s e; cases e
      split
      · intro s e; cases e; exact ⟨Nat.le_of_ble_eq_true rfl, hv, fun l q => by cases q⟩
      split
      · intro s e; cases e; exact ⟨Nat.le_of_ble_eq_true rfl, Lo.nil, fun l q => by cases q; exact hv⟩
      split
      · intro s e; cases e; exact ⟨Nat.le_of_ble_eq_true rfl, h10, fun l q => by cases q; exact hv⟩
      · exact nextL_lo h f _ _
    split
    · intro s e; cases e
    split
    · intro s e; cases e
    split
    · intro s e; cases e; exact ⟨Nat.le_of_ble_eq_true rfl, Lo.nil, fun l q => by cases q⟩
    split
    · intro s e; cases e; exact ⟨Nat.le_of_ble_eq_true rfl, h10, fun l q => by cases q⟩
    split
    · intro s e; cases e; exact ⟨Nat.le_of_ble_eq_true rfl, hv, fun l q => by cases q⟩
    · intro s e; cases e; exact ⟨Nat.le_of_ble_eq_true rfl, hv, fun l q => by cases q⟩
theorem nextP_lo {ps : List Pc} {lead note : Bool} {b d : Nat} (h : ∀ p ∈ ps, Lo p.val) : LoV (nextP ps lead note b d).1 := by
  unfold nextP
  dsimp only
  split
  · intro s e; cases e; exact ⟨Nat.le_of_ble_eq_true rfl, fun n hn => by simp at hn; omega, fun l q => by cases q⟩
  · exact nextL_lo h _ _ _
end Mine

end
section
set_option maxRecDepth 100000
set_option linter.all false
set_option bootstrap.genMatcherCode false
namespace Mine
noncomputable def mu (x : List Nat) (t : T) : Nat := 3 * (x.length - t.at_) + (match t.uch with
  | some [] => 1
  | some _ => 2
  | none => 0)
theorem one_len (x : List Nat) (a : Nat) : (one x a).length = min 1 (x.length - a) := by unfold one; simp
theorem getc_mu {x : List Nat} {t : T} (h : (getc x t).1 ≠ []) : mu x (getc x t).2 + 2 ≤ mu x t := by
  obtain ⟨at_, uch, ml, q, eof, cr, line⟩ := t
  cases uch with
  | some ch =>
    cases ch with
    | nil => simp [getc] at h
    | cons a r => simp [getc, mu]
  | none =>
    have l1 := one_len x at_
    cases eof with
    | true => simp [getc] at h
    | false =>
      simp only [getc, mu, Bool.false_eq_true, if_false] at h ⊢
      have l2 := one_len x (at_ + (one x at_).length)
      by_cases h0 : one x at_ = []
      · exfalso; simp [h0] at h
      · have : (one x at_).length ≠ 0 := by simpa using h0
        split <;> omega
theorem getc_uch {x : List Nat} {t : T} : (getc x t).2.uch = none := by
  obtain ⟨at_, uch, ml, q, eof, cr, line⟩ := t
  cases uch <;> cases eof <;> simp [getc]

theorem mu_lt {x : List Nat} (h : x.length ≤ 40) (t : T) : mu x t < FUEL := by
  unfold mu FUEL; split <;> omega

noncomputable def Wf (t : T) : Prop := ∀ ch, t.uch = some ch → ch.length ≤ 1
theorem getc_len {x : List Nat} {t : T} (h : Wf t) : (getc x t).1.length ≤ 1 := by
  obtain ⟨at_, uch, ml, q, eof, cr, line⟩ := t
  cases uch with
  | some ch => exact h ch rfl
  | none =>
    have l1 := one_len x at_
    cases eof with
    | true => simp [getc]
    | false =>
      simp only [getc, Bool.false_eq_true, if_false]
      have l2 := one_len x (at_ + (one x at_).length)
      have k13 : ∀ (l : List Nat) (b : Bool), l.length ≤ 1 → (if b = true then [10] else l).length ≤ 1 := fun l b hl => by cases b <;> simp [hl]
      have kk : ∀ (d : Bool), (if d = true then one x (at_ + (one x at_).length) else one x at_).length ≤ 1 := fun d => by cases d <;> simp <;> omega
      exact k13 _ _ (kk _)
theorem getc_le {x : List Nat} {t : T} : mu x (getc x t).2 ≤ mu x t := by
  obtain ⟨at_, uch, ml, q, eof, cr, line⟩ := t
  cases uch with
  | some ch => cases ch <;> simp [getc, mu]
  | none =>
    cases eof with
    | true => simp [getc]
    | false =>
      simp only [getc, mu, Bool.false_eq_true, if_false]
      split <;> omega
theorem mu_ung {x : List Nat} {t : T} {ch : List Nat} (h : t.uch = none) : mu x (ung t ch) = mu x t + if ch = [] then 1 else 2 := by
  unfold mu ung
  rw [h]
  cases ch <;> simp
theorem skip_mu {x : List Nat} : ∀ {F k : Nat} {t : T}, mu x (skip x F k t).2 ≤ mu x t + 1
  | 0, k, t => by simp [skip]
  | F + 1, k, t => by
    unfold skip
    by_cases h : (getc x t).1 ≠ [32] ∧ (getc x t).1 ≠ [9] ∧ ((getc x t).1 ≠ [10] ∨ (getc x t).2.ml = 0)
    · simp only [h, and_self, not_false_eq_true, ne_eq, if_true]
      rw [mu_ung getc_uch]
      by_cases h0 : (getc x t).1 = []
      · rw [if_pos h0]; have := getc_le (x := x) (t := t); omega
      · rw [if_neg h0]; have := getc_mu (x := x) (t := t) h0; omega
    · simp only [h, if_false]
      have h0 : (getc x t).1 ≠ [] := by intro e; rw [e] at h; simp at h
      have h1 := getc_mu (x := x) (t := t) h0
      have h2 := skip_mu (x := x) (F := F) (k := k + 1) (t := (getc x t).2)
      omega
theorem wf_none {t : T} (h : t.uch = none) : Wf t := fun ch e => by rw [h] at e; cases e
theorem wf_ung {t : T} {ch : List Nat} (h : ch.length ≤ 1) : Wf (ung t ch) := fun c e => by unfold ung at e; cases e; exact h
theorem skip_wf {x : List Nat} : ∀ {F k : Nat} {t : T}, Wf t → Wf (skip x F k t).2
  | 0, k, t, h => by simpa [skip] using h
  | F + 1, k, t, h => by
    unfold skip
    dsimp only
    split
    · exact wf_ung (getc_len h)
    · exact skip_wf (wf_none getc_uch)
theorem comm_mu {x : List Nat} : ∀ {F : Nat} {tk : List Nat} {t : T}, mu x (comm x F tk t).2.2 ≤ mu x t
  | 0, tk, t => by simp [comm]
  | F + 1, tk, t => by
    unfold comm
    dsimp only
    have := getc_le (x := x) (t := t)
    split
    · exact this
    · exact Nat.le_trans comm_mu this
theorem comm_uch {x : List Nat} : ∀ {F : Nat} {tk : List Nat} {t : T}, t.uch = none → (comm x F tk t).2.2.uch = none
  | 0, tk, t, h => by simpa [comm] using h
  | F + 1, tk, t, h => by
    unfold comm
    dsimp only
    split
    · exact getc_uch
    · exact comm_uch getc_uch
/-- one round of `loop`, the sign being read -/
noncomputable def lp (x : List Nat) (note : Bool) (f : Nat) (tk : List Nat) (ty : Nat) (esc : Bool) (r : List Nat × T) : Rs × T :=
    let c := r.1
    let t := r.2
    if c = [] ∨ c ∈ dels t.q then
      if c = [] ∧ t.q = true then (.ended, t)
      else if tk = [] ∧ ty ≠ 4 then
        if c = [40] then loop x note f tk ty esc (skip x FUEL 0 { t with ml := t.ml + 1 }).2
        else if c = [41] then
          if t.ml = 0 then (.synt, t) else loop x note f tk ty esc (skip x FUEL 0 { t with ml := t.ml - 1 }).2
        else if c = [34] then
          if t.q = false then loop x note f tk 4 esc { t with q := true }
          else loop x note f tk ty esc (skip x FUEL 0 { t with q := false }).2
        else if c = [10] then (.tok 1 [10] false none, t)
        else if c = [59] then
          let m := comm x FUEL tk t
          let tk := m.1
          let c := m.2.1
          let t := m.2.2
          if note then (.tok 5 tk false none, ung t c)
          else if c = [] then (if t.ml ≠ 0 then (.synt, t) else (.tok 0 [] false (some tk), t))
          else if t.ml ≠ 0 then loop x note f [] ty esc (skip x FUEL 0 t).2
          else (.tok 1 [10] false (some tk), t)
        else fin c 6 esc t
      else fin tk ty esc (ung t c)
    else if t.q = true ∧ c = [10] then (.synt, t)
    else if c = [92] then
      let r := getc x t
      if r.1 = [] ∨ (r.1 = [10] ∧ r.2.q = false) then (.ended, r.2)
      else loop x note f (tk ++ c ++ r.1) ty true r.2
    else loop x note f (tk ++ c) ty esc t
theorem loop_succ {x : List Nat} {note : Bool} {f : Nat} {tk : List Nat} {ty : Nat} {esc : Bool} {t : T} : loop x note (f + 1) tk ty esc t = lp x note f tk ty esc (getc x t) := rfl
theorem lp_ung {x : List Nat} {note : Bool} {f : Nat} {tk : List Nat} {ty : Nat} {esc : Bool} {c : List Nat} {t : T} (h : c = [] ∨ c ∈ dels t.q) (h2 : ¬ (c = [] ∧ t.q = true)) (h3 : ¬ (tk = [] ∧ ty ≠ 4)) : lp x note f tk ty esc (c, t) = fin tk ty esc (ung t c) :=
  (if_pos h).trans ((if_neg h2).trans (if_neg h3))
theorem lp_esc {x : List Nat} {note : Bool} {f : Nat} {tk : List Nat} {ty : Nat} {esc : Bool} {t : T} (h : ¬ ([92] = [] ∨ [92] ∈ dels t.q)) : lp x note f tk ty esc ([92], t) = (if (getc x t).1 = [] ∨ ((getc x t).1 = [10] ∧ (getc x t).2.q = false) then (.ended, (getc x t).2) else loop x note f (tk ++ [92] ++ (getc x t).1) ty true (getc x t).2) :=
  (if_neg h).trans ((if_neg fun h => absurd (show ([92] : List Nat) = [10] from h.2) (by decide)).trans (if_pos rfl))
theorem lp_more {x : List Nat} {note : Bool} {f : Nat} {tk : List Nat} {ty : Nat} {esc : Bool} {c : List Nat} {t : T} (h : ¬ (c = [] ∨ c ∈ dels t.q)) (h2 : ¬ (t.q = true ∧ c = [10])) (h3 : ¬ c = [92]) : lp x note f tk ty esc (c, t) = loop x note f (tk ++ c) ty esc t :=
  (if_neg h).trans ((if_neg h2).trans (if_neg h3))
end Mine

end
section
open PySem PySem.W PySem.Calls PyProof.Rows
set_option maxRecDepth 100000
set_option linter.all false
set_option genSizeOf false
set_option genInjectivity false
set_option genCtorIdx false
set_option bootstrap.genMatcherCode false
noncomputable section
namespace Mine

/-- places in the text, as one number -/
noncomputable def ps (n : Nat) : Pos := ⟨n / 1000000000, n / 1000000 % 1000, n / 1000 % 1000000 % 1000, n % 1000⟩

/-! the part of the language that the walked defs use -/
mutual
inductive E where
  | loc (n : N) (p : Nat)
  | glo (n : N) (p : Nat)
  | cel (n : N) (p : Nat)
  | int (i : Int) (k p : Nat)
  | str (l : List Nat) (k p : Nat)
  | non (k p : Nat)
  | boo (b : Bool) (k p : Nat)
  | att (e : E) (n : N) (p : Nat)
  | bin (o : Operator) (l r : E) (p : Nat)
  | cmp (o : CmpOp) (l r : E) (p : Nat)
  | neg (i : Int) (k p q : Nat)
  | ife (t b o : E) (p : Nat)
  | tup (es : Es) (k p : Nat)
  | lis (es : Es) (p : Nat)
  | sub (e i : E) (p : Nat)
  | sli (e lo up : E) (p q : Nat)
  | sl0 (e up : E) (p q : Nat)
  | cal (n : N) (np : Nat) (as : Es) (ks : Ks) (p : Nat)
  | met (o : E) (n : N) (ap : Nat) (as : Es) (ks : Ks) (p : Nat)
  | cmh (p px p1 p2 p3 p4 p5 : Nat)
  | not (e : E) (p : Nat)
  | bop (o : BoolOp) (es : Es) (p : Nat)
inductive Es where
  | nil
  | cons (e : E) (es : Es)
inductive Ks where
  | nil
  | cons (n : N) (e : E) (p : Nat) (ks : Ks)
end
mutual
inductive S where
  | asg (n : N) (e : E) (p q : Nat)
  | asc (n : N) (e : E) (p q : Nat)
  | asa (o : E) (n : N) (e : E) (p q : Nat)
  | asi (o i e : E) (p q : Nat)
  | ast (ts : Es) (e : E) (k p q : Nat)
  | aul (n : N) (o : Operator) (e : E) (p q : Nat)
  | aua (x : E) (n : N) (o : Operator) (e : E) (p q : Nat)
  | exp (e : E) (p : Nat)
  | ret (e : E) (p : Nat)
  | rtn (p : Nat)
  | brk (p : Nat)
  | cnt (p : Nat)
  | ite (t : E) (b o : B) (p : Nat)
  | whl (t : E) (b : B) (p : Nat)
  | for (n : N) (it : E) (b : B) (p q : Nat)
  | rai (n : N) (np p : Nat)
  | rax (n : N) (np : Nat) (as : Es) (cp p : Nat)
  | asr (t : E) (p : Nat)
  | try (b : B) (h : B) (p : Nat)
  | hnd (n : N) (np : Nat) (b : B) (p : Nat)
inductive B where
  | nil
  | cons (s : S) (b : B)
end

noncomputable def compS : Scope := ⟨.function, [(Str.ofString ".0", .local), (nm .kend, .local), (nm .kread, .free)], false, false, []⟩
mutual
noncomputable def E.un : E → PySem.Expr
  | .loc n p => .Name (nm n) (ps p)
  | .glo n p => .Name (nm n) (ps p)
  | .cel n p => .Name (nm n) (ps p)
  | .int i k p => .Constant (.int i) k (ps p)
  | .str l k p => .Constant (.str ⟨l.toArray⟩) k (ps p)
  | .non k p => .Constant .none k (ps p)
  | .boo b k p => .Constant (.bool b) k (ps p)
  | .att e n p => .Attribute e.un (nm n) (ps p)
  | .bin o l r p => .BinOp l.un o r.un (ps p)
  | .cmp o l r p => .Compare l.un [o] [r.un] (ps p)
  | .neg i k p q => .UnaryOp .USub (.Constant (.int i) k (ps p)) (ps q)
  | .ife t b o p => .IfExp t.un b.un o.un (ps p)
  | .tup es k p => .Tuple es.un k (ps p)
  | .lis es p => .List es.un (ps p)
  | .sub e i p => .Subscript e.un i.un (ps p)
  | .sli e lo up p q => .Subscript e.un (.Slice (some lo.un) (some up.un) none (ps p)) (ps q)
  | .sl0 e up p q => .Subscript e.un (.Slice none (some up.un) none (ps p)) (ps q)
  | .cal n np as ks p => .Call (.Name (nm n) (ps np)) as.un ks.un (ps p)
  | .met o n ap as ks p => .Call (.Attribute o.un (nm n) (ps ap)) as.un ks.un (ps p)
  | .cmh p px p1 p2 p3 p4 p5 => .ListComp (.Name (nm .kend) (ps p1)) [⟨.Name (nm .kend) (ps px), .Name (nm .klines) (ps p2), [.Compare (.Name (nm .kend) (ps p3)) [.Lt] [.Name (nm .kread) (ps p4)] (ps p5)], 0⟩] compS (ps p)
  | .not e p => .UnaryOp .Not e.un (ps p)
  | .bop o es p => .BoolOp o es.un (ps p)
noncomputable def Es.un : Es → List PySem.Expr
  | .nil => []
  | .cons e es => e.un :: es.un
noncomputable def Ks.un : Ks → List Keyword
  | .nil => []
  | .cons n e p ks => ⟨some (nm n), e.un, ps p⟩ :: ks.un
end
mutual
noncomputable def S.un : S → Stmt
  | .asg n e p q => .Assign [.Name (nm n) (ps p)] e.un (ps q)
  | .asc n e p q => .Assign [.Name (nm n) (ps p)] e.un (ps q)
  | .asa o n e p q => .Assign [.Attribute o.un (nm n) (ps p)] e.un (ps q)
  | .asi o i e p q => .Assign [.Subscript o.un i.un (ps p)] e.un (ps q)
  | .ast ts e k p q => .Assign [.Tuple ts.un k (ps p)] e.un (ps q)
  | .aul n o e p q => .AugAssign (.Name (nm n) (ps p)) o e.un (ps q)
  | .aua x n o e p q => .AugAssign (.Attribute x.un (nm n) (ps p)) o e.un (ps q)
  | .exp e p => .Expr e.un (ps p)
  | .ret e p => .Return (some e.un) (ps p)
  | .rtn p => .Return none (ps p)
  | .brk p => .Break (ps p)
  | .cnt p => .Continue (ps p)
  | .ite t b o p => .If t.un b.un o.un (ps p)
  | .whl t b p => .While t.un b.un [] (ps p)
  | .for n it b p q => .For (.Name (nm n) (ps p)) it.un b.un [] (ps q)
  | .rai n np p => .Raise (some (.Name (nm n) (ps np))) none (ps p)
  | .rax n np as cp p => .Raise (some (.Call (.Name (nm n) (ps np)) as.un [] (ps cp))) none (ps p)
  | .asr t p => .Assert t.un none (ps p)
  | .try b h p => .Try b.un h.hun [] [] (ps p)
  | .hnd _ _ _ p => .Pass (ps p)
noncomputable def B.un : B → List Stmt
  | .nil => []
  | .cons s b => s.un :: b.un
noncomputable def B.hun : B → List ExceptHandler
  | .nil => []
  | .cons s b => s.hun :: b.hun
noncomputable def S.hun : S → ExceptHandler
  | .hnd n np b p => .ExceptHandler (some (.Name (nm n) (ps np))) none b.un (ps p)
  | _ => .ExceptHandler none none [] (ps 0)
end

noncomputable def B.drop : Nat → B → B
  | 0, b => b
  | _ + 1, .nil => .nil
  | n + 1, .cons _ b => b.drop n

noncomputable def B.s : B → Nat → S
  | .nil, _ => .brk 0
  | .cons s _, 0 => s
  | .cons _ b, n + 1 => b.s n
noncomputable def S.b1 : S → B
  | .ite _ b _ _ => b
  | .whl _ b _ => b
  | .for _ _ b _ _ => b
  | .try b _ _ => b
  | .hnd _ _ b _ => b
  | _ => .nil
noncomputable def S.b2 : S → B
  | .ite _ _ b _ => b
  | .try _ b _ => b
  | _ => .nil
/-! what the rules ask of the text -/
noncomputable abbrev Kns := List (N × NameKind)
noncomputable def isL (ks : Kns) (n : N) : Bool := lkN ks n == some .local
noncomputable def isG (ks : Kns) (n : N) : Bool := lkN ks n == some .globalImplicit
noncomputable def isC (ks : Kns) (n : N) : Bool := lkN ks n == some .cell
noncomputable def E.base : E → Bool
  | .loc .. => true
  | .att .. => true
  | _ => false
noncomputable def E.val : E → Bool
  | .tup .. => false
  | .cmh .. => false
  | _ => true
noncomputable def E.val' : E → Bool
  | .cmh .. => false
  | _ => true
noncomputable def Es.len : Es → Nat
  | .nil => 0
  | .cons _ es => es.len + 1
noncomputable def Ks.len : Ks → Nat
  | .nil => 0
  | .cons _ _ _ ks => ks.len + 1
mutual
noncomputable def E.ok (ks : Kns) : E → Bool
  | .loc n _ => isL ks n
  | .glo n _ => isG ks n
  | .cel n _ => isC ks n
  | .att e _ _ => e.base && e.ok ks
  | .bin _ l r _ => l.ok ks && r.ok ks
  | .cmp _ l r _ => l.ok ks && r.ok ks
  | .ife t b o _ => t.ok ks && b.ok ks && o.ok ks
  | .tup es _ _ => es.ok ks
  | .lis es _ => es.ok ks
  | .sub e i _ => e.ok ks && i.ok ks
  | .sli e lo up _ _ => e.ok ks && lo.ok ks && up.ok ks
  | .sl0 e up _ _ => e.ok ks && up.ok ks
  | .cal n _ as kw _ => isG ks n && as.ok ks && kw.ok ks
  | .met o _ ap as kw p => o.base && o.ok ks && Nat.beq (ps ap).endLine (ps p).line && Nat.blt (as.len + kw.len + 1) 30 && as.ok ks && kw.ok ks
  | .cmh .. => isL ks .klines && isC ks .kread
  | .not e _ => e.ok ks
  | .bop _ es _ => es.ok ks
  | _ => true
noncomputable def Es.ok (ks : Kns) : Es → Bool
  | .nil => true
  | .cons e es => e.ok ks && es.ok ks
noncomputable def Ks.ok (ks : Kns) : Ks → Bool
  | .nil => true
  | .cons _ e _ kw => e.ok ks && kw.ok ks
end
noncomputable def Es.tgt (ks : Kns) : Es → Bool
  | .nil => true
  | .cons e es => (match e with | .loc n _ => isL ks n | .cel n _ => isC ks n | _ => false) && es.tgt ks
mutual
noncomputable def S.ok (ks : Kns) : S → Bool
  | .asg n e _ _ => isL ks n && e.val' && e.ok ks
  | .asc n e _ _ => isC ks n && e.val' && e.ok ks
  | .asa o _ e _ _ => o.ok ks && e.val' && e.ok ks
  | .asi o i e _ _ => o.ok ks && i.ok ks && e.val' && e.ok ks
  | .ast ts e _ _ _ => ts.tgt ks && e.val && e.ok ks
  | .aul n _ e _ _ => isL ks n && e.ok ks
  | .aua x _ _ e _ _ => x.ok ks && e.ok ks
  | .exp e _ => e.val' && e.ok ks
  | .ret e _ => e.ok ks
  | .ite t b o _ => t.ok ks && b.ok ks && o.ok ks
  | .whl t b _ => t.ok ks && b.ok ks
  | .for n it b _ _ => isL ks n && it.ok ks && b.ok ks
  | .rai n _ _ => isG ks n
  | .rax n _ as _ _ => isG ks n && as.ok ks
  | .asr t _ => t.ok ks
  | .try b _ _ => b.ok ks
  | .hnd .. => false
  | _ => true
noncomputable def B.ok (ks : Kns) : B → Bool
  | .nil => true
  | .cons s b => s.ok ks && b.ok ks
end

end Mine

end
section
open PySem PySem.W PySem.Calls PyProof.Rows
set_option maxRecDepth 100000
set_option linter.all false
set_option bootstrap.genMatcherCode false
namespace Mine

/-! what a piece of text asks for -/
noncomputable def methAt (C : Addr) (n : N) : Option Addr := (METH.find? fun p => p.1 == (C, n)).map (·.2)
theorem methAt_ok {C : Addr} {n : N} {f : Addr} (h : methAt C n = some f) : METH.contains ((C, n), f) = true := by
  unfold methAt at h
  cases q : METH.find? (fun p => p.1 == (C, n)) with
  | none => rw [q] at h; cases h
  | some p =>
    rw [q] at h
    simp only [Option.map_some, Option.some.injEq] at h
    have h1 := List.find?_some q
    have h2 := List.mem_of_find?_eq_some q
    rw [List.contains_iff_mem]
    obtain ⟨pa, pb⟩ := p
    have h1' : pa = (C, n) := beq_iff_eq.mp h1
    subst h1' h
    exact h2

/-! names found and stored, with what follows: nothing is left unread -/
noncomputable def lkK : List (N × V) → N → (V → Prop) → Prop
  | [], _, _ => False
  | (a, v) :: r, n, k => cond (decide (n = a)) (k v) (lkK r n k)
noncomputable def putK : List (N × V) → N → V → (List (N × V) → Prop) → Prop
  | [], n, v, k => k [(n, v)]
  | (a, u) :: r, n, v, k => cond (decide (n = a)) (k ((n, v) :: r)) (putK r n v fun r' => k ((a, u) :: r'))
theorem brI {b : Bool} {p q : Prop} (h1 : b = true → p) (h2 : b = false → q) : cond b p q := by cases b <;> first | exact h1 rfl | exact h2 rfl
theorem brF {b : Bool} {p q : Prop} (h : b = false) (x : q) : cond b p q := by subst h; exact x
theorem brT {b : Bool} {p q : Prop} (h : b = true) (x : p) : cond b p q := by subst h; exact x
noncomputable def vGrd (b : Bool) (p : Prop) : Prop := match b with | true => p | false => False
noncomputable def St.up (σ : St) (k : List (N × V) → Hp → Prop) : Prop := match σ with | ⟨l, H⟩ => k l H
noncomputable def vInt (x : V) (k : Int → Prop) : Prop := match x with | .int i => k i | _ => False
noncomputable def vStr (x : V) (k : List Nat → Prop) : Prop := match x with | .str i => k i | _ => False
noncomputable def vTup (x : V) (k : List V → Prop) : Prop := match x with | .tup i => k i | _ => False
noncomputable def vRef (x : V) (k : Addr → Prop) : Prop := match x with | .ref i => k i | _ => False
noncomputable def vNon (x : V) (k : Prop) : Prop := match x with | .none => k | _ => False
@[irreducible] noncomputable def aAtt (H : Hp) (a : Addr) (n : N) (k : V → Prop) : Prop := ∃ C fs, H a = some (.inst C fs) ∧ vGrd (attOf C n) (lkK fs n fun v => vGrd v.handed (k v))
theorem attI {H : Hp} {a C : Addr} {n : N} {fs : List (N × V)} {k : V → Prop} (h : H a = some (.inst C fs)) (q : vGrd (attOf C n) (lkK fs n fun v => vGrd v.handed (k v))) : aAtt H a n k := by unfold aAtt; exact ⟨C, fs, h, q⟩
noncomputable def vAtt (H : Hp) (n : N) (x : V) (k : V → Prop) : Prop := vRef x fun a => aAtt H a n k
@[irreducible] noncomputable def aSto (l : List (N × V)) (H : Hp) (a : Addr) (n : N) (v : V) (k : St → Prop) : Prop := ∃ C fs, H a = some (.inst C fs) ∧ vGrd (attOf C n) (vGrd (Nat.ble fs.length 100) (putK fs n v fun fs' => k ⟨l, H.upd a (.inst C fs')⟩))
theorem stoI {l : List (N × V)} {H : Hp} {a C : Addr} {n : N} {v : V} {fs : List (N × V)} {k : St → Prop} (h : H a = some (.inst C fs)) (q : vGrd (attOf C n) (vGrd (Nat.ble fs.length 100) (putK fs n v fun fs' => k ⟨l, H.upd a (.inst C fs')⟩))) : aSto l H a n v k := by unfold aSto; exact ⟨C, fs, h, q⟩
noncomputable def vSto (σ : St) (n : N) (v x : V) (k : St → Prop) : Prop := vRef x fun a => σ.up fun l H => aSto l H a n v k
noncomputable def vAdd (x y : V) (k : V → Prop) : Prop := match x with
  | .int i => vInt y fun j => k (.int (i + j))
  | .str a => vStr y fun b => a.length + b.length ≤ 10000000 ∧ k (.str (a ++ b))
  | _ => False
noncomputable def vSub (x y : V) (k : V → Prop) : Prop := vInt x fun i => vInt y fun j => k (.int (i - j))
noncomputable def vBin (o : Operator) (x y : V) (k : V → Prop) : Prop := match o with
  | .Add => vAdd x y k
  | .Sub => vSub x y k
  | .Mod => vInt x fun i => vInt y fun j => 0 < j ∧ k (.int (i % j))
  | .FloorDiv => vInt x fun i => vInt y fun j => (0 < j ∧ 0 ≤ i ∧ i < 2 ^ 30 ∧ j < 2 ^ 30) ∧ k (.int (i / j))
  | _ => False
noncomputable def vInp (o : Operator) (x y : V) (k : V → Prop) : Prop := match o with
  | .Add => vAdd x y k
  | .Sub => vSub x y k
  | _ => False
noncomputable def allStr : List V → (List (List Nat) → Prop) → Prop
  | [], k => k []
  | v :: r, k => vStr v fun l => allStr r fun ls => k (l :: ls)
noncomputable def vIns (l : List Nat) (y : V) (k : Bool → Prop) : Prop := vStr y fun m => ∃ n b, (l = [n] ∧ Txt.contains ⟨m.toArray⟩ ⟨#[n]⟩ = b) ∧ k b
noncomputable def vCmp (o : CmpOp) (x y : V) (k : Bool → Prop) : Prop := match o with
  | .Eq => (match x with
      | .int i => vInt y fun j => k (decide (i = j))
      | .str a => vStr y fun b => k (decide (a = b))
      | _ => False)
  | .NotEq => (match x with
      | .int i => vInt y fun j => k (!decide (i = j))
      | .str a => vStr y fun b => k (!decide (a = b))
      | .tup a => vTup y fun b => (a = b ∧ (pds a).isSome = true) ∧ k false
      | _ => False)
  | .Lt => vInt x fun i => vInt y fun j => k (decide (i < j))
  | .Gt => vInt x fun i => vInt y fun j => k (decide (j < i))
  | .LtE => vInt x fun i => vInt y fun j => k (decide (i ≤ j))
  | .Is => vNon y (k x.isNone)
  | .IsNot => vNon y (k (!x.isNone))
  | .In => vStr x fun l => (match y with
      | .tup vs => allStr vs fun ls => k (decide (l ∈ ls))
      | .str m => vIns l (.str m) k
      | _ => False)
  | .NotIn => vStr x fun l => vIns l y fun b => k (!b)
  | _ => False
noncomputable def vTru (x : V) (k : Bool → Prop) : Prop := match x with
  | .bool b => k b
  | .int i => k (!decide (i = 0))
  | _ => False
/-- an item, also of a list of the caller -/
noncomputable def ItemC (c : Cx) (H : Hp) (x y z : V) : Prop := Item H x y z ∨ ∃ a vs k, x = .ref a ∧ BL c a vs ∧ y = .int k ∧ 0 ≤ k ∧ k < 2 ^ 60 ∧ vs[k.toNat]? = some z
noncomputable def vSli (σ : St) (x y z : V) (Q : V → St → Prop) : Prop := vInt y fun a => vInt z fun b => σ.up fun loc H => match x with
  | .str l => (l.length ≤ 1000000 ∧ 0 ≤ a ∧ 0 ≤ b) ∧ Q (.str (sliceL l a b)) ⟨loc, H⟩
  | .ref l => ∃ vs, (H l = some (.list vs) ∧ vs.length ≤ 1000000 ∧ 0 ≤ a ∧ 0 ≤ b) ∧ ∀ r, H r = none → Q (.ref r) ⟨loc, H.upd r (.list (sliceL vs a b))⟩
  | _ => False
noncomputable def vSl0 (σ : St) (x z : V) (Q : V → St → Prop) : Prop := vStr x fun l => vInt z fun b => (l.length ≤ 1000000 ∧ 0 ≤ b) ∧ Q (.str (sliceL l 0 b)) σ
noncomputable def optK (o : Option Addr) (k : Addr → Prop) : Prop := match o with | some a => k a | none => False
noncomputable def noK : List (N × V) → N → Prop → Prop
  | [], _, k => k
  | (a, _) :: r, n, k => cond (decide (n = a)) False (noK r n k)
/-- a method, found -/
@[irreducible] noncomputable def aMet (H : Hp) (a : Addr) (n : N) (k : V → Prop) : Prop := ∃ o, H a = some o ∧ (match o with
      | .inst C fs => optK (methAt C n) fun f => noK fs n (vGrd (CALLEES.contains f) (k (.ref f)))
      | .list _ => vGrd (decide (n = .kappend)) (k (.bi "list.append"))
      | _ => False)
theorem metI {H : Hp} {a C : Addr} {n : N} {fs : List (N × V)} {k : V → Prop} (h : H a = some (.inst C fs)) (q : optK (methAt C n) fun f => noK fs n (vGrd (CALLEES.contains f) (k (.ref f)))) : aMet H a n k := by unfold aMet; exact ⟨_, h, q⟩
theorem metL {H : Hp} {a : Addr} {n : N} {vs : List V} {k : V → Prop} (h : H a = some (.list vs)) (q : vGrd (decide (n = .kappend)) (k (.bi "list.append"))) : aMet H a n k := by unfold aMet; exact ⟨_, h, q⟩
noncomputable def vMet (σ : St) (x : V) (n : N) (k : V → Prop) : Prop := match x with
  | .ref a => σ.up fun _ H => aMet H a n k
  | .str _ => vGrd (decide (n = .kencode)) (k (.bi "str.encode"))
  | .bytes _ => vGrd (decide (n = .kdecode)) (k (.bi "bytes.decode"))
  | _ => False
structure CallI (c : Cx) (f : V) (vs : List V) (kn : List Str) (kv : List V) (σ : St) (Q : V → St → Prop) : Prop where
  h : CallV c f vs kn kv σ Q
structure RunI (c : Cx) (s : S) (σ : St) (Q : Fl → St → Prop) : Prop where
  h : WS c s.un σ Q
structure CompI (c : Cx) (e : E) (σ : St) (Q : V → St → Prop) : Prop where
  h : WV c e.un σ Q
noncomputable def Ks.names : Ks → List Str
  | .nil => []
  | .cons n _ _ ks => nm n :: ks.names
noncomputable def vCell (c : Cx) (n : N) (σ : St) (k : Addr → Option V → St → Prop) : Prop := σ.up fun l H => ∃ a o, (c.env.cells.lookup (nm n) = some a ∧ H a = some (.cell o)) ∧ k a o ⟨l, H⟩
noncomputable def vLoc (o : Option V) (k : V → Prop) : Prop := match o with | some v => k v | none => False
noncomputable def vNew (σ : St) (o : O) (Q : V → St → Prop) : Prop := σ.up fun l H => ∀ a, H a = none → Q (.ref a) ⟨l, H.upd a o⟩
noncomputable def vPut (σ : St) (n : N) (v : V) (k : St → Prop) : Prop := σ.up fun l H => putK l n v fun l' => k ⟨l', H⟩
mutual
noncomputable def E.v (c : Cx) : E → St → (V → St → Prop) → Prop
  | .loc n _, σ, Q => lkK σ.loc n fun v => Q v σ
  | .glo n _, σ, Q => lkK GT n fun v => Q v σ
  | .cel n _, σ, Q => vCell c n σ fun _ o σ₁ => vLoc o fun v => Q v σ₁
  | .int i _ _, σ, Q => Q (.int i) σ
  | .str l _ _, σ, Q => Q (.str l) σ
  | .non _ _, σ, Q => Q .none σ
  | .boo b _ _, σ, Q => Q (.bool b) σ
  | .att e n _, σ, Q => e.v c σ fun x σ₁ => σ₁.up fun l H => vAtt H n x fun v => Q v ⟨l, H⟩
  | .bin o l r _, σ, Q => l.v c σ fun x σ₁ => r.v c σ₁ fun y σ₂ => vBin o x y fun z => Q z σ₂
  | .cmp o l r _, σ, Q => l.v c σ fun x σ₁ => r.v c σ₁ fun y σ₂ => vCmp o x y fun b => Q (.bool b) σ₂
  | .neg i _ _ _, σ, Q => Q (.int (-i)) σ
  | .ife t b o _, σ, Q => t.t c σ fun x σ₁ => cond x (b.v c σ₁ Q) (o.v c σ₁ Q)
  | .tup es _ _, σ, Q => es.v c σ fun vs σ₁ => vGrd (Nat.ble vs.length 100) (Q (.tup vs) σ₁)
  | .lis es _, σ, Q => es.v c σ fun vs σ₁ => vGrd (Nat.ble vs.length 100) (vNew σ₁ (.list vs) Q)
  | .sub e i _, σ, Q => e.v c σ fun x σ₁ => i.v c σ₁ fun y σ₂ => σ₂.up fun l H => ∃ z, ItemC c H x y z ∧ Q z ⟨l, H⟩
  | .sli e lo up _ _, σ, Q => e.v c σ fun x σ₁ => lo.v c σ₁ fun y σ₂ => up.v c σ₂ fun z σ₃ => vSli σ₃ x y z Q
  | .sl0 e up _ _, σ, Q => e.v c σ fun x σ₁ => up.v c σ₁ fun z σ₃ => vSl0 σ₃ x z Q
  | .cal n _ as ks _, σ, Q => lkK GT n fun f => vGrd (callOk f) (as.v c σ fun vs σ₁ => ks.v c σ₁ fun kv σ₂ => CallI c f vs ks.names kv σ₂ Q)
  | .met o n _ as ks _, σ, Q => o.v c σ fun x σ₁ => vMet σ₁ x n fun f => as.v c σ₁ fun vs σ₂ => ks.v c σ₂ fun kv σ₃ => CallI c f (x :: vs) ks.names kv σ₃ Q
  | .cmh p px p1 p2 p3 p4 p5, σ, Q => CompI c (.cmh p px p1 p2 p3 p4 p5) σ Q
  | .not .., _, _ => False
  | .bop .., _, _ => False
/-- as a test -/
noncomputable def E.t (c : Cx) : E → St → (Bool → St → Prop) → Prop
  | .cmp o l r _, σ, Q => l.v c σ fun x σ₁ => r.v c σ₁ fun y σ₂ => vCmp o x y fun b => Q b σ₂
  | .not e _, σ, Q => e.t c σ fun b σ₁ => Q (!b) σ₁
  | .bop o es _, σ, Q => es.t c o σ Q
  | .loc n _, σ, Q => lkK σ.loc n fun v => vTru v fun b => Q b σ
  | .att e n _, σ, Q => e.v c σ fun x σ₁ => σ₁.up fun l H => vAtt H n x fun v => vTru v fun b => Q b ⟨l, H⟩
  | .boo b _ _, σ, Q => Q b σ
  | .int i _ _, σ, Q => Q (!decide (i = 0)) σ
  | .met o n _ as ks _, σ, Q => o.v c σ fun x σ₁ => vMet σ₁ x n fun f => as.v c σ₁ fun vs σ₂ => ks.v c σ₂ fun kv σ₃ => CallI c f (x :: vs) ks.names kv σ₃ fun v σ₄ => vTru v fun b => Q b σ₄
  | .cal n _ as ks _, σ, Q => lkK GT n fun f => vGrd (callOk f) (as.v c σ fun vs σ₁ => ks.v c σ₁ fun kv σ₂ => CallI c f vs ks.names kv σ₂ fun v σ₄ => vTru v fun b => Q b σ₄)
  | _, _, _ => False
noncomputable def Es.v (c : Cx) : Es → St → (List V → St → Prop) → Prop
  | .nil, σ, Q => Q [] σ
  | .cons e es, σ, Q => e.v c σ fun v σ₁ => es.v c σ₁ fun vs σ₂ => Q (v :: vs) σ₂
noncomputable def Es.t (c : Cx) : Es → BoolOp → St → (Bool → St → Prop) → Prop
  | .nil, .And, σ, Q => Q true σ
  | .nil, .Or, σ, Q => Q false σ
  | .cons e es, .And, σ, Q => e.t c σ fun b σ₁ => cond b (es.t c .And σ₁ Q) (Q false σ₁)
  | .cons e es, .Or, σ, Q => e.t c σ fun b σ₁ => cond b (Q true σ₁) (es.t c .Or σ₁ Q)
noncomputable def Ks.v (c : Cx) : Ks → St → (List V → St → Prop) → Prop
  | .nil, σ, Q => Q [] σ
  | .cons _ e _ ks, σ, Q => e.v c σ fun v σ₁ => ks.v c σ₁ fun vs σ₂ => Q (v :: vs) σ₂
end
noncomputable def vExc (o : V) (k : Addr → Prop) : Prop := vRef o fun C => vGrd (isExc C) (k C)
noncomputable def vCel1 (c : Cx) (n : N) (v : V) (σ : St) (Q : St → Prop) : Prop := vCell c n σ fun a _ σ₁ => σ₁.up fun l H => Q ⟨l, H.upd a (.cell (some v))⟩
/-- stores of the items of a tuple -/
noncomputable def vTgt1 (c : Cx) (e : E) (v : V) (σ : St) (Q : St → Prop) : Prop := match e with
  | .loc n _ => vPut σ n v Q
  | .cel n _ => vCel1 c n v σ Q
  | _ => False
noncomputable def vTgt (c : Cx) : Es → List V → St → (St → Prop) → Prop
  | .nil, vs, σ, Q => (match vs with | [] => Q σ | _ => False)
  | .cons e es, vs, σ, Q => (match vs with | v :: vs => vTgt1 c e v σ fun σ₁ => vTgt c es vs σ₁ Q | _ => False)
noncomputable def vSet (σ : St) (x y v : V) (Q : St → Prop) : Prop := vRef x fun a => vInt y fun k => σ.up fun l H => ∃ vs, (H a = some (.list vs) ∧ 0 ≤ k ∧ k < vs.length ∧ k < 2 ^ 60) ∧ Q ⟨l, H.upd a (.list (vs.set k.toNat v))⟩
noncomputable def seqV (k : St → Prop) (Q : Fl → St → Prop) : Fl → St → Prop
  | .next, σ => k σ
  | .brk, σ => Q .brk σ
  | .cont, σ => Q .cont σ
  | .ret v, σ => Q (.ret v) σ
mutual
noncomputable def S.v (c : Cx) : S → (Fl → St → Prop) → St → Prop
  | .asg n e _ _, Q, σ => e.v c σ fun v σ₁ => vPut σ₁ n v fun σ₂ => Q .next σ₂
  | .asc n e _ _, Q, σ => e.v c σ fun v σ₁ => vCel1 c n v σ₁ fun σ₂ => Q .next σ₂
  | .asa o n e _ _, Q, σ => e.v c σ fun v σ₁ => o.v c σ₁ fun x σ₂ => vSto σ₂ n v x fun σ₃ => Q .next σ₃
  | .asi o i e _ _, Q, σ => e.v c σ fun v σ₁ => o.v c σ₁ fun x σ₂ => i.v c σ₂ fun y σ₃ => vSet σ₃ x y v fun σ₄ => Q .next σ₄
  | .ast ts e _ _ _, Q, σ => e.v c σ fun v σ₁ => vTup v fun vs => vGrd (Nat.beq vs.length ts.len) (vTgt c ts vs σ₁ fun σ₂ => Q .next σ₂)
  | .aul n o e _ _, Q, σ => lkK σ.loc n fun x => e.v c σ fun y σ₁ => vInp o x y fun z => vPut σ₁ n z fun σ₂ => Q .next σ₂
  | .aua x n o e _ _, Q, σ => x.v c σ fun a σ₁ => σ₁.up fun l H => vAtt H n a fun u => e.v c ⟨l, H⟩ fun y σ₂ => vInp o u y fun z => vSto σ₂ n z a fun σ₃ => Q .next σ₃
  | .exp e _, Q, σ => e.v c σ fun _ σ₁ => Q .next σ₁
  | .ret e _, Q, σ => e.v c σ fun v σ₁ => Q (.ret v) σ₁
  | .rtn _, Q, σ => Q (.ret .none) σ
  | .brk _, Q, σ => Q .brk σ
  | .cnt _, Q, σ => Q .cont σ
  | .ite t b o _, Q, σ => t.t c σ fun x σ₁ => cond x (b.v c Q σ₁) (o.v c Q σ₁)
  | .whl t b p, Q, σ => RunI c (.whl t b p) σ Q
  | .for n it b p q, Q, σ => RunI c (.for n it b p q) σ Q
  | .try b h p, Q, σ => RunI c (.try b h p) σ Q
  | .rai n _ _, _, σ => lkK GT n fun f => vExc f fun C => c.X C σ.H
  | .rax n _ as _ _, _, σ => lkK GT n fun f => vExc f fun C => as.v c σ fun vs σ₁ => vGrd (Nat.ble vs.length 1000) (c.X C σ₁.H)
  | .asr t _, Q, σ => t.t c σ fun x σ₁ => vGrd x (Q .next σ₁)
  | .hnd .., _, _ => False
noncomputable def B.v (c : Cx) : B → (Fl → St → Prop) → St → Prop
  | .nil, Q, σ => Q .next σ
  | .cons s b, Q, σ => s.v c (seqV (b.v c Q) Q) σ
end
end Mine

end
section
open PySem PySem.W PySem.Calls PyProof.Rows
set_option maxRecDepth 100000
set_option linter.all false
set_option bootstrap.genMatcherCode false
namespace Mine
variable {c : Cx} {σ : St} {ks : Kns}

/-! the data words -/
theorem grd_ok {b : Bool} {p : Prop} (h : vGrd b p) : b = true ∧ p := by
  cases b with
  | true => exact ⟨rfl, h⟩
  | false => exact h.elim
theorem lkK_ok {n : N} {k : V → Prop} : ∀ {l : List (N × V)}, lkK l n k → ∃ v, lk l n = some v ∧ k v
  | [], h => False.elim h
  | (a, v) :: r, h => by
    unfold lkK at h
    unfold lk
    by_cases e : n = a
    · subst e; rw [decide_eq_true rfl] at h; exact ⟨v, if_pos rfl, h⟩
    · rw [decide_eq_false e] at h
      obtain ⟨w, e1, h⟩ := lkK_ok (l := r) h
      exact ⟨w, by rw [if_neg e]; exact e1, h⟩
theorem putK_ok {n : N} {v : V} : ∀ {l : List (N × V)} {k : List (N × V) → Prop}, putK l n v k → k (put l n v)
  | [], _, h => h
  | (a, u) :: r, k, h => by
    unfold putK at h
    unfold put
    by_cases e : n = a
    · subst e; rw [decide_eq_true rfl] at h; rw [if_pos rfl]; exact h
    · rw [decide_eq_false e] at h; rw [if_neg e]; exact putK_ok (l := r) (k := fun r' => k ((a, u) :: r')) h
theorem noK_ok {n : N} {k : Prop} : ∀ {l : List (N × V)}, noK l n k → lk l n = none ∧ k
  | [], h => ⟨rfl, h⟩
  | (a, v) :: r, h => by
    unfold noK at h
    unfold lk
    by_cases e : n = a
    · subst e; rw [decide_eq_true rfl] at h; exact False.elim h
    · rw [decide_eq_false e] at h; rw [if_neg e]; exact noK_ok (l := r) h
theorem int_ok {x : V} {k : Int → Prop} (h : vInt x k) : ∃ i, x = .int i ∧ k i := by cases x <;> first | exact ⟨_, rfl, h⟩ | exact False.elim h
theorem str_ok {x : V} {k : List Nat → Prop} (h : vStr x k) : ∃ i, x = .str i ∧ k i := by cases x <;> first | exact ⟨_, rfl, h⟩ | exact False.elim h
theorem tup_ok {x : V} {k : List V → Prop} (h : vTup x k) : ∃ i, x = .tup i ∧ k i := by cases x <;> first | exact ⟨_, rfl, h⟩ | exact False.elim h
theorem ref_ok {x : V} {k : Addr → Prop} (h : vRef x k) : ∃ i, x = .ref i ∧ k i := by cases x <;> first | exact ⟨_, rfl, h⟩ | exact False.elim h
theorem non_ok {x : V} {k : Prop} (h : vNon x k) : x = .none ∧ k := by cases x <;> first | exact ⟨rfl, h⟩ | exact False.elim h
/-- an attribute, read -/
inductive AttI (H : Hp) (n : N) (x : V) (k : V → Prop) : Prop
  | mk (a C : Addr) (fs : List (N × V)) (v : V) (ex : x = .ref a) (hH : H a = some (.inst C fs)) (hat : attOf C n = true) (hl : lk fs n = some v) (hh : v.handed = true) (q : k v)
theorem vAtt_ok {H : Hp} {n : N} {x : V} {k : V → Prop} (h : vAtt H n x k) : AttI H n x k := by
  obtain ⟨a, ex, h⟩ := ref_ok h
  unfold aAtt at h
  obtain ⟨C, fs, hH, h⟩ := h
  obtain ⟨e1, h⟩ := grd_ok h
  obtain ⟨v, e2, h⟩ := lkK_ok h
  exact ⟨a, C, fs, v, ex, hH, e1, e2, (grd_ok h).1, (grd_ok h).2⟩
inductive StoI (σ : St) (n : N) (v x : V) (k : St → Prop) : Prop
  | mk (a C : Addr) (fs : List (N × V)) (ex : x = .ref a) (hH : σ.H a = some (.inst C fs)) (hat : attOf C n = true) (hsz : fs.length ≤ 100) (q : k ⟨σ.loc, σ.H.upd a (.inst C (put fs n v))⟩)
theorem vSto_ok {n : N} {v x : V} {k : St → Prop} (h : vSto σ n v x k) : StoI σ n v x k := by
  obtain ⟨a, ex, h⟩ := ref_ok h
  have h : aSto _ _ _ _ _ _ := h
  unfold aSto at h
  obtain ⟨C, fs, hH, h⟩ := h
  obtain ⟨e1, h⟩ := grd_ok h
  obtain ⟨e2, h⟩ := grd_ok h
  exact ⟨a, C, fs, ex, hH, e1, Nat.le_of_ble_eq_true e2, putK_ok h⟩
theorem vAdd_ok {x y : V} {k : V → Prop} (h : vAdd x y k) : ∃ z, (Bin .Add x y z ∧ Inp .Add x y z) ∧ k z := by
  cases x <;> first
    | exact False.elim h
    | ((obtain ⟨j, ee, h'⟩ := int_ok h; clear h; have h := h'; clear h'; subst ee); exact ⟨_, ⟨Bin.addI, Inp.addI⟩, h⟩)
    | ((obtain ⟨j, ee, e, h'⟩ := str_ok h; clear h; have h := h'; clear h'; subst ee); exact ⟨_, ⟨Bin.addS e, Inp.addS e⟩, h⟩)
theorem vSub_ok {x y : V} {k : V → Prop} (h : vSub x y k) : ∃ z, (Bin .Sub x y z ∧ Inp .Sub x y z) ∧ k z := by
  (obtain ⟨i, ee, h'⟩ := int_ok h; clear h; have h := h'; clear h'; subst ee)
  (obtain ⟨j, ee, h'⟩ := int_ok h; clear h; have h := h'; clear h'; subst ee)
  exact ⟨_, ⟨Bin.subI, Inp.subI⟩, h⟩
theorem vBin_ok {o : Operator} {x y : V} {k : V → Prop} (h : vBin o x y k) : ∃ z, Bin o x y z ∧ k z := by
  cases o <;> first
    | exact False.elim h
    | (obtain ⟨z, e, h⟩ := vAdd_ok h; exact ⟨z, e.1, h⟩)
    | (obtain ⟨z, e, h⟩ := vSub_ok h; exact ⟨z, e.1, h⟩)
    | ((obtain ⟨i, ee, h'⟩ := int_ok h; clear h; have h := h'; clear h'; subst ee); (obtain ⟨j, ee, h'⟩ := int_ok h; clear h; have h := h'; clear h'; subst ee); first | exact ⟨_, Bin.modI h.1, h.2⟩ | exact ⟨_, Bin.divI h.1.1 h.1.2.1 h.1.2.2.1 h.1.2.2.2, h.2⟩)
theorem vInp_ok {o : Operator} {x y : V} {k : V → Prop} (h : vInp o x y k) : ∃ z, Inp o x y z ∧ k z := by
  cases o <;> first
    | exact False.elim h
    | (obtain ⟨z, e, h⟩ := vAdd_ok h; exact ⟨z, e.2, h⟩)
    | (obtain ⟨z, e, h⟩ := vSub_ok h; exact ⟨z, e.2, h⟩)
theorem allStr_ok : ∀ {vs : List V} {k : List (List Nat) → Prop}, allStr vs k → ∃ ls, vs = ls.map .str ∧ k ls
  | [], _, h => ⟨[], rfl, h⟩
  | v :: r, _, h => by
    (obtain ⟨l, ee, h'⟩ := str_ok h; clear h; have h := h'; clear h'; subst ee)
    (obtain ⟨ls, ee, h'⟩ := allStr_ok h; clear h; have h := h'; clear h'; subst ee)
    exact ⟨l :: ls, rfl, h⟩
theorem vIns_ok {l : List Nat} {y : V} {k : Bool → Prop} (h : vIns l y k) : ∃ n m b, y = .str m ∧ l = [n] ∧ Txt.contains ⟨m.toArray⟩ ⟨#[n]⟩ = b ∧ k b := by
  obtain ⟨m, e, n, b, ⟨e1, e2⟩, h⟩ := str_ok h
  exact ⟨n, m, b, e, e1, e2, h⟩
theorem ii_ok {x y : V} {k : Int → Int → Prop} (h : vInt x fun i => vInt y fun j => k i j) : ∃ i j, x = .int i ∧ y = .int j ∧ k i j := by
  (obtain ⟨i, ee, h'⟩ := int_ok h; clear h; have h := h'; clear h'; subst ee)
  (obtain ⟨j, ee, h'⟩ := int_ok h; clear h; have h := h'; clear h'; subst ee)
  exact ⟨i, j, rfl, rfl, h⟩
theorem vCmp_ok {o : CmpOp} {x y : V} {k : Bool → Prop} (h : vCmp o x y k) : ∃ b, Cmp o x y b ∧ k b := by
  cases o with
  | Eq => cases x <;> first
    | exact False.elim h
    | ((obtain ⟨j, ee, h'⟩ := int_ok h; clear h; have h := h'; clear h'; subst ee); exact ⟨_, Cmp.eqI, h⟩)
    | ((obtain ⟨j, ee, h'⟩ := str_ok h; clear h; have h := h'; clear h'; subst ee); exact ⟨_, Cmp.eqS, h⟩)
  | NotEq => cases x <;> first
    | exact False.elim h
    | ((obtain ⟨j, ee, h'⟩ := int_ok h; clear h; have h := h'; clear h'; subst ee); exact ⟨_, Cmp.neI, h⟩)
    | ((obtain ⟨j, ee, h'⟩ := str_ok h; clear h; have h := h'; clear h'; subst ee); exact ⟨_, Cmp.neS, h⟩)
    | (obtain ⟨j, ee, ⟨e1, e⟩, h'⟩ := tup_ok h
       subst ee e1
       obtain ⟨ds, e⟩ := Option.isSome_iff_exists.mp e
       exact ⟨_, Cmp.neSelf e, h'⟩)
  | Lt => (obtain ⟨i, j, ee, ee', h'⟩ := ii_ok h; clear h; have h := h'; clear h'; subst ee ee'); exact ⟨_, Cmp.ltI, h⟩
  | Gt => (obtain ⟨i, j, ee, ee', h'⟩ := ii_ok h; clear h; have h := h'; clear h'; subst ee ee'); exact ⟨_, Cmp.gtI, h⟩
  | LtE => (obtain ⟨i, j, ee, ee', h'⟩ := ii_ok h; clear h; have h := h'; clear h'; subst ee ee'); exact ⟨_, Cmp.leI, h⟩
  | Is => (obtain ⟨ee, h'⟩ := non_ok h; clear h; have h := h'; clear h'; subst ee); exact ⟨_, Cmp.isN, h⟩
  | IsNot => (obtain ⟨ee, h'⟩ := non_ok h; clear h; have h := h'; clear h'; subst ee); exact ⟨_, Cmp.isNotN, h⟩
  | In =>
    (obtain ⟨l, ee, h'⟩ := str_ok h; clear h; have h := h'; clear h'; subst ee)
    cases y <;> first
    | exact False.elim h
    | ((obtain ⟨ls, ee, h'⟩ := allStr_ok h; clear h; have h := h'; clear h'; subst ee); exact ⟨_, Cmp.inT, h⟩)
    | (obtain ⟨n, m, b, e, e1, e2, h'⟩ := vIns_ok h; subst e1; cases e; exact ⟨_, Cmp.inS e2, h'⟩)
  | NotIn =>
    (obtain ⟨l, ee, h'⟩ := str_ok h; clear h; have h := h'; clear h'; subst ee)
    obtain ⟨n, m, b, e, e1, e2, h'⟩ := vIns_ok h
    subst e e1
    exact ⟨_, Cmp.notInS e2, h'⟩
  | _ => exact False.elim h
theorem vTru_ok {x : V} {k : Bool → Prop} (h : vTru x k) : ∃ b, Tru x b ∧ k b := by
  cases x <;> first | exact False.elim h | exact ⟨_, Tru.bool, h⟩ | exact ⟨_, Tru.int, h⟩

/-! names stored in their place -/
theorem Rel.put {n : N} {v : V} {l : List (N × V)} {H : Hp} {s : Shared} (R : Rel c ⟨(n, v) :: l, H⟩ s) : Rel c ⟨put l n v, H⟩ s :=
  { R with locs := let ⟨m, e, q⟩ := R.locs; ⟨m, e, fun y w z => q y w (by rw [lk_put] at z; exact z)⟩ }
theorem storeP (K : c.Ok) {n : N} {v : V} {u : Value} {s : Shared} {E : Value → Shared → Prop} {Q : Unit → Shared → Prop} (hk : c.env.kindOf (nm n) = some .local) (R : Rel c σ s) (hv : VR s.heap v u)
    (h : ∀ s', Rel c ⟨put σ.loc n v, σ.H⟩ s' → Evo s.heap s'.heap → Q () s') : wpAny (model c.prog c.w) c.A (storeName c.env (nm n) u) Q E s :=
  storeL K hk R hv fun s' R' => h s' R'.put
theorem W.assignP (K : c.Ok) {n : N} {p pos : Pos} {e : PySem.Expr} {Q : Fl → St → Prop} (hk : c.env.kindOf (nm n) = some .local)
    (h : WV c e σ fun v σ₁ => Q .next ⟨put σ₁.loc n v, σ₁.H⟩) (hs : swapsWith e (some (.Name (nm n) p)) pos.line c.env = pure false) : WS c (.Assign [.Name (nm n) p] e pos) σ Q := fun s R =>
  wpAny_Assign_Name (wpAny_mono (h s R) (fun a s₁ ⟨x, σ₁, h1, R1, e1, q1⟩ => storeP K hk R1 h1 fun s₂ R2 e2 => ⟨.next, _, rfl, R2, e1.trans e2, q1⟩) fun _ _ x => x) hs
theorem W.augP (K : c.Ok) {n : N} {p pos : Pos} {op : Operator} {e : PySem.Expr} {x : V} {Q : Fl → St → Prop} (hk : c.env.kindOf (nm n) = some .local) (hl : lk σ.loc n = some x)
    (h : WV c e σ fun y σ₁ => ∃ z, Inp op x y z ∧ Q .next ⟨put σ₁.loc n z, σ₁.H⟩) : WS c (.AugAssign (.Name (nm n) p) op e pos) σ Q := fun s R => by
  obtain ⟨m, hm, hq⟩ := R.locs
  obtain ⟨u, hu, hv⟩ := hq n x hl
  refine wpAny_AugAssign_Name (wpAny_loadName_local K.kind hk hm hu ?_)
  refine wpAny_mono (h s R) (fun b s₁ ⟨y, σ₁, h1, R1, e1, z, hz, q1⟩ => ?_) fun _ _ x => x
  refine hz _ _ _ _ _ _ _ _ (hv.evo e1) h1 fun w t hw => ?_
  exact storeP K hk R1.toks hw fun s₂ R2 e2 => ⟨.next, _, rfl, R2, e1.trans e2, q1⟩
theorem WT.nameP (K : c.Ok) {n : N} {p : Pos} {v : V} {Q : St → Prop} (hk : c.env.kindOf (nm n) = some .local) (h : Q ⟨put σ.loc n v, σ.H⟩) : WT c (.Name (nm n) p) v σ Q := fun s u R hv =>
  wpAny_assign_Name (storeP K hk R hv fun s' R' e' => ⟨_, R', e', h⟩)

/-- what is known of a frame -/
structure Rdy0 (c : Cx) (ks : Kns) : Prop where
  K : c.Ok
  hu : c.A.units < 9800
  kn : KN c.env ks
structure Rdy (c : Cx) (ks : Kns) : Prop extends Rdy0 c ks where
  hh : c.A.handled = none
theorem Rdy0.loc (r : Rdy0 c ks) {n : N} (h : isL ks n = true) : c.env.kindOf (nm n) = some .local := r.kn.at (beq_iff_eq.mp h)
theorem Rdy0.glo (r : Rdy0 c ks) {n : N} (h : isG ks n = true) : c.env.kindOf (nm n) = some .globalImplicit := r.kn.at (beq_iff_eq.mp h)
theorem Rdy0.cel (r : Rdy0 c ks) {n : N} (h : isC ks n = true) : c.env.kindOf (nm n) = some .cell := r.kn.at (beq_iff_eq.mp h)

/-! the shapes -/
theorem un_star (e : E) (rest : List PySem.Expr) (env : Env) : starEach (e.un :: rest) env = (false, eval e.un env) :: starEach rest env := by cases e <;> rfl
theorem un_marks (o : CmpOp) (e : E) : behindInMarks o e.un = false := by cases e <;> rfl
theorem un_sub (e : E) (o v : Value) : subscripted e.un false o v = operate [o, v] (getItem o v) := by cases e <;> rfl
theorem un_swap {e : E} (h : e.val' = true) (t : Option PySem.Expr) (l : Nat) (env : Env) : swapsWith e.un t l env = pure false := by cases e <;> first | rfl | cases h
theorem un_base {e : E} (h : e.base = true) (n : Str) (p : Pos) (env : Env) : eval (.Attribute e.un n p) env = (do
      let o ← eval e.un env
      standAt p.atName
      let r ← holding [o] (getAttr o n true)
      letTemporaryGo e.un o r
      pure r) ∧ attributeBase e.un n env (eval e.un env) = eval e.un env := by cases e <;> first | exact ⟨by with_unfolding_all rfl, by with_unfolding_all rfl⟩ | cases h
theorem as_any (pos : Pos) (env : Env) : ∀ as : Es, (backTo pos (starEach as.un env)).any (·.1) = false
  | .nil => rfl
  | .cons e es => by
    show (backTo pos (starEach (e.un :: es.un) env)).any (·.1) = false
    rw [un_star]
    exact as_any pos env es
theorem as_all (pos : Pos) (env : Env) : ∀ as : Es, (backTo pos (starEach as.un env)).all (!·.1) = true
  | .nil => rfl
  | .cons e es => by
    show (backTo pos (starEach (e.un :: es.un) env)).all (!·.1) = true
    rw [un_star]
    exact as_all pos env es
theorem as_len : ∀ as : Es, as.un.length = as.len
  | .nil => rfl
  | .cons _ es => congrArg (· + 1) (as_len es)
theorem ks_len : ∀ kw : Ks, kw.un.length = kw.len
  | .nil => rfl
  | .cons _ _ _ kw => congrArg (· + 1) (ks_len kw)
theorem ks_all (pos : Pos) (env : Env) : ∀ kw : Ks, (backToKw pos (keywordEach kw.un env)).all (·.1.isSome) = true
  | .nil => rfl
  | .cons _ _ _ kw => ks_all pos env kw
theorem ks_nms (pos : Pos) (env : Env) : ∀ kw : Ks, (backToKw pos (keywordEach kw.un env)).filterMap (·.1) = kw.un.filterMap (·.arg)
  | .nil => rfl
  | .cons n _ _ kw => congrArg (nm n :: ·) (ks_nms pos env kw)
theorem ks_names : ∀ kw : Ks, kw.un.filterMap (·.arg) = kw.names
  | .nil => rfl
  | .cons n _ _ kw => congrArg (nm n :: ·) (ks_names kw)
theorem few_ok {as : Es} {kw : Ks} (pos : Pos) (env : Env) (h : Nat.blt (as.len + kw.len + 1) 30 = true) : methodCallForm (as.un.length + kw.un.length) (backTo pos (starEach as.un env)) (backToKw pos (keywordEach kw.un env)) = true := by
  unfold methodCallForm
  rw [as_all, ks_all, as_len, ks_len]
  have h := Nat.le_of_ble_eq_true h
  simp only [Bool.and_self, Bool.true_and, decide_eq_true_eq]
  split <;> omega
theorem exc_ok {o : V} {k : Addr → Prop} (h : vExc o k) : ∃ C, o = .ref C ∧ isExc C = true ∧ k C := by
  obtain ⟨C, e, h⟩ := ref_ok h
  exact ⟨C, e, (grd_ok h).1, (grd_ok h).2⟩
theorem loc_ok {o : Option V} {k : V → Prop} (h : vLoc o k) : ∃ v, o = some v ∧ k v := by
  cases o with
  | none => exact h.elim
  | some v => exact ⟨v, rfl, h⟩
theorem ifT {p q : Prop} {b : Bool} (h : cond b p q) : (b = true → p) ∧ (b = false → q) := by cases b <;> exact ⟨fun e => (by first | exact h | cases e), fun e => (by first | exact h | cases e)⟩

theorem W.attI (K : c.Ok) {e : PySem.Expr} {n : N} {pos : Pos} {Q : V → St → Prop}
    (h : WV c e σ fun x σ₁ => vAtt σ₁.H n x fun v => Q v σ₁)
    (he : eval (.Attribute e (nm n) pos) c.env = (do
      let o ← eval e c.env
      standAt pos.atName
      let r ← holding [o] (getAttr o (nm n) true)
      letTemporaryGo e o r
      pure r)) : WV c (.Attribute e (nm n) pos) σ Q := fun s R => by
  refine Attribute_any_ (wpAny_mono (h s R) (fun o s₁ ⟨x, σ₁, h1, R1, e1, q⟩ => ?_) fun _ _ x => x) he
  obtain ⟨a, C, fs, v, ex, hH, hat, hl, hh, q'⟩ := vAtt_ok q
  subst ex; cases h1
  refine getAttr_inst (K.kin.keeps R1.keep) (R1.objs a _ hH) (attB_ok K.att hat).1 hl hh fun u hu => ⟨v, σ₁, hu, R1.toks, e1, q'⟩
theorem W.subC {e i : PySem.Expr} {pos : Pos} {Q : V → St → Prop}
    (h : WV c e σ fun x σ₁ => WV c i σ₁ fun y σ₂ => ∃ z, ItemC c σ₂.H x y z ∧ Q z σ₂)
    (hs : ∀ o v, subscripted i false o v = operate [o, v] (getItem o v)) : WV c (.Subscript e i pos) σ Q := fun s R => by
  refine Subscript_ (wpAny_mono (h s R) (fun o s₁ ⟨x, σ₁, h1, R1, e1, q1⟩ => ?_) fun _ _ x => x)
  refine wpAny_mono (q1 s₁ R1) (fun v s₂ ⟨y, σ₂, h2, R2, e2, z, hz, q2⟩ => ?_) fun _ _ x => x
  have h1' := h1.evo e2
  clear h1 q1 h
  have ev := e1.trans e2
  clear e1 e2
  have lst : ∀ {a : Addr} {xs : Array Value} {vs : List V} {k : Int} {t : Tok}, s₂.heap.IsList a xs → VRs s₂.heap vs xs.toList → 0 ≤ k → k < 2 ^ 60 → vs[k.toNat]? = some z → wpAny (model c.prog c.w) c.A (subscriptTail e i (.ref a) (.int k t)) (fun a s' => ∃ b σ', VR s'.heap b a ∧ Rel c σ' s' ∧ Evo s.heap s'.heap ∧ Q b σ') c.E s₂ := fun hL hr h0 hk hv => by
    obtain ⟨u, hu, hru⟩ := hr.get hv
    exact tail_any hL.typeIs slot_list_getitem.lookup (wpAny_getItem_list hL h0 (by omega) (by simpa using hu) ⟨z, σ₂, hru, R2, ev, q2⟩) (hs _ _)
  rcases hz with (⟨vs, k, rfl, rfl, h0, hk, hv⟩ | ⟨a, vs, k, rfl, hH, rfl, h0, hk, hv⟩ | ⟨a, vs, rfl, hH, rfl, hlen, hv⟩ | ⟨l, k, n, rfl, rfl, h0, hk, hv, rfl⟩) | ⟨a, vs, k, rfl, hb, rfl, h0, hk, hv⟩
  · obtain ⟨a, xs, rfl, ht, hr⟩ := h1'
    obtain ⟨t, rfl⟩ := h2
    obtain ⟨u, hu, hru⟩ := hr.get hv
    exact item_tupleT ht (by omega) (by omega) (seqIndex_nn h0 (List.getElem?_eq_some_iff.mp hu).1) hu ⟨z, σ₂, hru, R2, ev, q2⟩ (hs _ _)
  · cases h1'
    obtain ⟨t, rfl⟩ := h2
    obtain ⟨xs, hL, hr⟩ := (R2.objs a _ hH).isList
    exact lst hL hr h0 hk hv
  · cases h1'
    obtain ⟨t, rfl⟩ := h2
    obtain ⟨xs, hL, hr⟩ := (R2.objs a _ hH).isList
    rw [List.getLast?_eq_getElem?] at hv
    obtain ⟨u, hu, hru⟩ := hr.get hv
    have hl := hr.length
    have hlt : vs.length - 1 < vs.length := (List.getElem?_eq_some_iff.mp hv).1
    refine tail_any hL.typeIs slot_list_getitem.lookup (wpAny_getItem_list_neg hL (by omega) (by rw [List.size_toArray]; omega) (by omega) (x := u) ?_ ⟨z, σ₂, hru, R2, ev, q2⟩) (hs _ _)
    rw [List.size_toArray, hl]
    have : ((-1 : Int) + (vs.length : Int)).toNat = vs.length - 1 := by omega
    rw [this]
    simpa using hu
  · obtain ⟨t, rfl⟩ := h1'
    obtain ⟨t', rfl⟩ := h2
    have hlt : k.toNat < l.length := (List.getElem?_eq_some_iff.mp hv).1
    refine tail_any (typeIs_str _ _ _) PySem.F.slot_str_getitem.lookup (P.getItem_str (c := n) (by simp; omega) ?_ ⟨.str [n], σ₂, ⟨_, rfl⟩, R2.toks, ev, q2⟩) (hs _ _)
    have : (⟨l.toArray⟩ : Str).length = l.length := by simp [Str.length]
    rw [this, seqIndex_nn h0 hlt]
    simpa using hv
  · cases h1'
    obtain ⟨t, rfl⟩ := h2
    obtain ⟨xs, hL, hr⟩ := hb.now R2.toRelH
    exact lst hL hr h0 hk hv
theorem sl0_ok {x z : V} {Q : V → St → Prop} (q : vSl0 σ x z Q) : ∃ l b, x = .str l ∧ z = .int b ∧ l.length ≤ 1000000 ∧ 0 ≤ b ∧ Q (.str (sliceL l 0 b)) σ := by
  obtain ⟨l, e, q⟩ := str_ok q
  obtain ⟨b, e', q⟩ := int_ok q
  exact ⟨_, _, e, e', q.1.1, q.1.2, q.2⟩
theorem sli_ok {x y z : V} {Q : V → St → Prop} (q : vSli σ x y z Q) : ∃ a b, y = .int a ∧ z = .int b ∧ 0 ≤ a ∧ 0 ≤ b ∧ ((∃ l, x = .str l ∧ l.length ≤ 1000000 ∧ Q (.str (sliceL l a b)) σ) ∨
    ∃ l vs, x = .ref l ∧ σ.H l = some (.list vs) ∧ vs.length ≤ 1000000 ∧ ∀ r, σ.H r = none → Q (.ref r) ⟨σ.loc, σ.H.upd r (.list (sliceL vs a b))⟩) := by
  obtain ⟨a, b, e, e', q'⟩ := ii_ok q
  clear q
  have q := q'
  clear q'
  subst e e'
  cases x <;> first
    | exact False.elim q
    | exact ⟨a, b, rfl, rfl, q.1.2.1, q.1.2.2, .inl ⟨_, rfl, q.1.1, q.2⟩⟩
    | (obtain ⟨vs, ⟨h1, h2, h3, h4⟩, q⟩ := q
       exact ⟨a, b, rfl, rfl, h3, h4, .inr ⟨_, vs, rfl, h1, h2, q⟩⟩)
theorem W.sliC {e lo up : PySem.Expr} {p pos : Pos} {Q : V → St → Prop}
    (h : WV c e σ fun x σ₁ => WV c lo σ₁ fun y σ₂ => WV c up σ₂ fun z σ₃ => vSli σ₃ x y z Q) :
    WV c (.Subscript e (.Slice (some lo) (some up) none p) pos) σ Q := fun s R => by
  refine Subscript_ (wpAny_mono (h s R) (fun o s₁ ⟨x, σ₁, h1, R1, e1, q1⟩ => ?_) fun _ _ x => x)
  refine wpAny_Slice (wpAny_evalPart_some (wpAny_mono (q1 s₁ R1) (fun u₁ s₂ ⟨y, σ₂, h2, R2, e2, q2⟩ => ?_) fun _ _ x => x))
  refine wpAny_evalPart_some (wpAny_mono (q2 s₂ R2) (fun u₂ s₃ ⟨z, σ₃, h3, R3, e3, q3⟩ => wpAny_evalPart_none ?_) fun _ _ x => x)
  clear h q1 q2
  obtain ⟨a, b, ea, eb, ha, hb, q4⟩ := sli_ok q3
  clear q3
  subst ea eb
  rcases q4 with ⟨l, rfl, hl, q3⟩ | ⟨l, vs, rfl, hH, hl, q3⟩
  · obtain ⟨t, rfl⟩ := h1
    obtain ⟨t1, rfl⟩ := h2
    obtain ⟨t2, rfl⟩ := h3
    refine tail_any (typeIs_str _ _ _) PySem.F.slot_str_getitem.lookup (wpAny_getItem_str_slice (l := some (a, t1)) (u := some (b, t2)) (st := none) ⟨_, Heap.get?_push_size _ rfl, rfl, rfl⟩ (by decide) ?_) (sliced_seq _ _ _ _ _)
    refine made_slice l t _ _ a b (.inr ⟨_, rfl⟩) ⟨_, rfl⟩ ha hb (by rw [sizeLine_eq]; omega) fun t' tk => ?_
    exact ⟨.str (sliceL l a b), σ₃, ⟨t', rfl⟩, R3.push, ((e1.trans e2).trans e3).trans (.push _ _), q3⟩
  · cases h1
    obtain ⟨t1, rfl⟩ := h2
    obtain ⟨t2, rfl⟩ := h3
    have R4 := R3.push (o := { cls := .type "slice", data := .fields #[.int a t1, .int b t2, .none] }) (t := s₃.toks)
    obtain ⟨xs, hL, hr⟩ := (R4.objs l _ hH).isList
    refine tail_any hL.typeIs slot_list_getitem.lookup (wpAny_getItem_list_slice hL (.new _ _ _ _) (.int _ _) (.int _ _) .none (by decide) ?_ (by rw [List.size_toArray, hr.length, sizeLine_eq]; omega)) (sliced_seq _ _ _ _ _)
    rw [slicePick_nn xs a b ha hb]
    obtain ⟨R5, e5, hn⟩ := newList_rel (t := s₃.toks) R4 (hr.sliceL a b)
    exact ⟨.ref _, _, rfl, R5, (((e1.trans e2).trans e3).trans (.push _ _)).trans e5, q3 _ hn⟩

/-! expressions -/
structure ESnd (c : Cx) (ks : Kns) (e : E) : Prop where
  v : ∀ {σ : St} {Q : V → St → Prop}, e.ok ks = true → e.v c σ Q → WV c e.un σ Q
  t : ∀ {σ : St} {Q : Bool → St → Prop}, e.ok ks = true → e.t c σ Q → WB c e.un σ Q
structure EsSnd (c : Cx) (ks : Kns) (es : Es) : Prop where
  v : ∀ {σ : St} {pos : Pos} {Q : List V → St → Prop}, es.ok ks = true → es.v c σ Q → WA c es.un pos σ Q
  t : ∀ {o : BoolOp} {σ : St} {Q : Bool → St → Prop}, es.ok ks = true → es.t c o σ Q → WAll c o es.un σ Q
noncomputable def KsSnd (c : Cx) (ks : Kns) (kw : Ks) : Prop := ∀ {σ : St} {pos : Pos} {Q : List V → St → Prop}, kw.ok ks = true → kw.v c σ Q → WK c kw.un pos σ Q
theorem tru_of {e : PySem.Expr} {Q : Bool → St → Prop} (h : WV c e σ fun v σ₁ => vTru v fun b => Q b σ₁) (he : isTrue e c.env (eval e c.env) = (do let v ← eval e c.env; standAt e.pos; holding [v] (truthy v))) : WB c e σ Q :=
  W.tval (h.mono fun _ _ q => vTru_ok q) he
theorem ESnd.mk' {e : E} (v : ∀ {σ : St} {Q : V → St → Prop}, e.ok ks = true → e.v c σ Q → WV c e.un σ Q) (h : ∀ {σ : St} {Q : Bool → St → Prop}, e.t c σ Q → (e.v c σ fun v σ₁ => vTru v fun b => Q b σ₁))
    (he : isTrue e.un c.env (eval e.un c.env) = (do let v ← eval e.un c.env; standAt e.un.pos; holding [v] (truthy v))) : ESnd c ks e := ⟨v, fun k q => tru_of (v k (h q)) he⟩
theorem and2 {a b : Bool} (h : (a && b) = true) : a = true ∧ b = true := by cases a <;> cases b <;> first | exact ⟨rfl, rfl⟩ | cases h
theorem cell_ok {n : N} {k : Addr → Option V → St → Prop} (h : vCell c n σ k) : ∃ a o, c.env.cells.lookup (nm n) = some a ∧ σ.H a = some (.cell o) ∧ k a o σ := let ⟨a, o, ⟨h1, h2⟩, h3⟩ := h; ⟨a, o, h1, h2, h3⟩
theorem met_ok (K : c.Ok) {x : V} {n : N} {k : V → Prop} (h : vMet σ x n k) : ∃ f, Meth c σ x n f ∧ callOk f = true ∧ k f := by
  cases x <;> first
    | exact False.elim h
    | (obtain ⟨e, h⟩ := grd_ok h
       have e := of_decide_eq_true e
       subst e
       first | exact ⟨_, Meth.encode, rfl, h⟩ | exact ⟨_, Meth.decode, rfl, h⟩)
    | skip
  have h : aMet _ _ _ _ := h
  unfold aMet at h
  obtain ⟨o, hH, h⟩ := h
  cases o <;> first
    | exact False.elim h
    | (obtain ⟨e, h⟩ := grd_ok h
       have e := of_decide_eq_true e
       subst e
       exact ⟨_, Meth.append hH, rfl, h⟩)
    | skip
  rename_i a C fs
  have h : optK (methAt C n) fun f => noK fs n (vGrd (CALLEES.contains f) (k (V.ref f))) := h
  cases e1 : methAt C n with
  | none => rw [e1] at h; exact False.elim h
  | some f =>
    rw [e1] at h
    obtain ⟨e2, h⟩ := noK_ok h
    obtain ⟨e3, h⟩ := grd_ok h
    exact ⟨_, meth_inst K hH (methAt_ok e1) e2, e3, h⟩
theorem call_un (r : Rdy0 c ks) {n : N} {np p : Nat} {as : Es} {kw : Ks} (ia : EsSnd c ks as) (ik : KsSnd c ks kw) {Q : V → St → Prop} (hk : (E.cal n np as kw p).ok ks = true) (h : (E.cal n np as kw p).v c σ Q) : WV c (E.cal n np as kw p).un σ Q := by
  obtain ⟨hk, h3⟩ := and2 hk
  obtain ⟨h1, h2⟩ := and2 hk
  obtain ⟨f, e, h⟩ := lkK_ok h
  obtain ⟨e2, h⟩ := grd_ok h
  refine W.callN r.K (W.nameG r.K (r.glo h1) e ⟨e2, ?_⟩) (as_any _ _ _) (ks_all _ _ _) (ks_nms _ _ _)
  refine (ia.v h2 h).mono fun vs σ₁ q => (ik h3 q).mono fun kv σ₂ q => ?_
  rw [ks_names]
  exact q.h
theorem meth_un (r : Rdy0 c ks) {o : E} {n : N} {ap p : Nat} {as : Es} {kw : Ks} (io : ESnd c ks o) (ia : EsSnd c ks as) (ik : KsSnd c ks kw) {Q : V → St → Prop} (hk : (E.met o n ap as kw p).ok ks = true) (h : (E.met o n ap as kw p).v c σ Q) : WV c (E.met o n ap as kw p).un σ Q := by
  obtain ⟨hk, h6⟩ := and2 hk
  obtain ⟨hk, h5⟩ := and2 hk
  obtain ⟨hk, h4⟩ := and2 hk
  obtain ⟨hk, h3⟩ := and2 hk
  obtain ⟨h1, h2⟩ := and2 hk
  refine W.callM r.K ?_ (un_base h1 _ (ps ap) _).2 (few_ok _ _ h4) ?_ (as_any _ _ _) (ks_all _ _ _) (ks_nms _ _ _)
  · refine (io.v h2 h).mono fun x σ₁ q => ?_
    obtain ⟨f, g1, g2, q⟩ := met_ok r.K q
    refine ⟨f, g1, g2, (ia.v h5 q).mono fun vs σ₁ q => (ik h6 q).mono fun kv σ₂ q => ?_⟩
    rw [ks_names]
    exact q.h
  · unfold methodCallPos
    rw [few_ok _ _ h4, Nat.eq_of_beq_eq_true h3]
    simp
mutual
theorem E.snd (r : Rdy0 c ks) : ∀ e : E, ESnd c ks e
  | .loc n p => ESnd.mk' (fun hk h => let ⟨_, e, h⟩ := lkK_ok h; W.nameL r.K (r.loc hk) e h) (fun h => h) (by with_unfolding_all rfl)
  | .glo n p => ⟨fun hk h => let ⟨_, e, h⟩ := lkK_ok h; W.nameG r.K (r.glo hk) e h, fun _ h => False.elim h⟩
  | .cel n p => ⟨fun hk h => by
      obtain ⟨a, o, h1, h2, h⟩ := cell_ok h
      obtain ⟨v, rfl, h⟩ := loc_ok h
      exact W.nameC r.K (r.cel hk) h1 h2 h, fun _ h => False.elim h⟩
  | .int i k p => ESnd.mk' (fun _ h => W.cint h) (fun h => h) (by with_unfolding_all rfl)
  | .str l k p => ⟨fun _ h => W.cstr rfl h, fun _ h => False.elim h⟩
  | .non k p => ⟨fun _ h => W.cnone h, fun _ h => False.elim h⟩
  | .boo b k p => ESnd.mk' (fun _ h => W.cbool h) (fun h => h) (by with_unfolding_all rfl)
  | .att e n p => ESnd.mk' (fun hk h => W.attI r.K ((E.snd r e).v (and2 hk).2 h) (un_base (and2 hk).1 _ _ _).1) (fun h => h) (by with_unfolding_all rfl)
  | .bin o l rr p => ⟨fun hk h => W.binop (((E.snd r l).v (and2 hk).1 h).mono fun _ _ q => ((E.snd r rr).v (and2 hk).2 q).mono fun _ _ q => vBin_ok q), fun _ h => False.elim h⟩
  | .cmp o l rr p => ⟨fun hk h => W.cmp r.hu (((E.snd r l).v (and2 hk).1 h).mono fun _ _ q => ((E.snd r rr).v (and2 hk).2 q).mono fun _ _ q => vCmp_ok q) (un_marks _ _),
      fun hk h => W.tcmp r.hu (((E.snd r l).v (and2 hk).1 h).mono fun _ _ q => ((E.snd r rr).v (and2 hk).2 q).mono fun _ _ q => vCmp_ok q) (un_marks _ _)⟩
  | .neg i k p q => ⟨fun _ h => W.neg h, fun _ h => False.elim h⟩
  | .ife t b o p => ⟨fun hk h => W.ifexp (((E.snd r t).t (and2 (and2 hk).1).1 h).mono fun _ _ q => ⟨fun e => (E.snd r b).v (and2 (and2 hk).1).2 ((ifT q).1 e), fun e => (E.snd r o).v (and2 hk).2 ((ifT q).2 e)⟩), fun _ h => False.elim h⟩
  | .tup es k p => ⟨fun hk h => W.tuple (((Es.snd r es).v hk h).mono fun vs σ₁ q => ⟨Nat.le_of_ble_eq_true (grd_ok q).1, (grd_ok q).2⟩), fun _ h => False.elim h⟩
  | .lis es p => ⟨fun hk h => W.list (((Es.snd r es).v hk h).mono fun vs σ₁ q => ⟨Nat.le_of_ble_eq_true (grd_ok q).1, (grd_ok q).2⟩), fun _ h => False.elim h⟩
  | .sub e i p => ⟨fun hk h => W.subC (((E.snd r e).v (and2 hk).1 h).mono fun _ _ q => (E.snd r i).v (and2 hk).2 q) (un_sub i), fun _ h => False.elim h⟩
  | .sli e lo up p q => ⟨fun hk h => W.sliC (((E.snd r e).v (and2 (and2 hk).1).1 h).mono fun _ _ q => ((E.snd r lo).v (and2 (and2 hk).1).2 q).mono fun _ _ q => (E.snd r up).v (and2 hk).2 q), fun _ h => False.elim h⟩
  | .sl0 e up p q => ⟨fun hk h => W.sliceStr0 (((E.snd r e).v (and2 hk).1 h).mono fun _ _ q => ((E.snd r up).v (and2 hk).2 q).mono fun _ _ q => sl0_ok q), fun _ h => False.elim h⟩
  | .cal n np as kw p => ESnd.mk' (fun hk h => call_un r (Es.snd r as) (Ks.snd r kw) hk h) (fun h => h) (by with_unfolding_all rfl)
  | .met o n ap as kw p => ESnd.mk' (fun hk h => meth_un r (E.snd r o) (Es.snd r as) (Ks.snd r kw) hk h) (fun h => h) (by with_unfolding_all rfl)
  | .cmh .. => ⟨fun _ h => h.h, fun _ h => False.elim h⟩
  | .not e p => ⟨fun _ h => False.elim h, fun hk h => W.tnot ((E.snd r e).t hk h)⟩
  | .bop o es p => ⟨fun _ h => False.elim h, fun hk h => W.tbool ((Es.snd r es).t hk h)⟩
theorem Es.snd (r : Rdy0 c ks) : ∀ es : Es, EsSnd c ks es
  | .nil => ⟨fun _ h => W.anil h, fun {o} _ _ _ h => by cases o <;> first | exact W.andNil h | exact W.orNil h⟩
  | .cons e es => ⟨fun hk h => W.acons (((E.snd r e).v (and2 hk).1 h).mono fun _ _ q => (Es.snd r es).v (and2 hk).2 q) (un_star _ _ _), fun {o} _ _ hk h => by
      cases o
      · exact W.andCons (((E.snd r e).t (and2 hk).1 h).mono fun _ _ q => ⟨fun e => (Es.snd r es).t (and2 hk).2 ((ifT q).1 e), (ifT q).2⟩)
      · exact W.orCons (((E.snd r e).t (and2 hk).1 h).mono fun _ _ q => ⟨(ifT q).1, fun e => (Es.snd r es).t (and2 hk).2 ((ifT q).2 e)⟩)⟩
theorem Ks.snd (r : Rdy0 c ks) : ∀ kw : Ks, KsSnd c ks kw
  | .nil => fun _ h => W.knil h
  | .cons n e p kw => fun hk h => W.kcons (((E.snd r e).v (and2 hk).1 h).mono fun _ _ q => Ks.snd r kw (and2 hk).2 q)
end
end Mine

end
section
open PySem PySem.W PySem.Calls PyProof.Rows
set_option maxRecDepth 100000
set_option linter.all false
set_option bootstrap.genMatcherCode false
namespace Mine
variable {c : Cx} {σ : St} {ks : Kns}

theorem val_val {e : E} (h : e.val = true) : e.val' = true := by cases e <;> first | rfl | cases h
theorem un_sole {e : E} (h : e.val' = true) (t : PySem.Expr) (l : Nat) (env : Env) : swapsWithSole [t] e.un l env = pure false := by cases e <;> first | with_unfolding_all rfl | cases h
theorem un_stores {e : E} (h : e.val = true) (ts : List PySem.Expr) (k : Nat) (p : Pos) (env : Env) : swappedStores [.Tuple ts k p] e.un env = pure none := by cases e <;> first | rfl | cases h
theorem un_each (env : Env) : ∀ ts : Es, ts.tgt ks = true → assignEach ts.un env = ts.un.map fun t => (false, assign t env)
  | .nil, _ => rfl
  | .cons e es, h => by
    have ih := un_each env es (and2 h).2
    show assignEach (e.un :: es.un) env = _ :: es.un.map _
    rw [← ih]
    cases e <;> rfl
theorem cel1_ok {n : N} {v : V} {Q : St → Prop} (h : vCel1 c n v σ Q) : ∃ a o, c.env.cells.lookup (nm n) = some a ∧ σ.H a = some (.cell o) ∧ Q ⟨σ.loc, σ.H.upd a (.cell (some v))⟩ := cell_ok h
theorem tgt1_ok (r : Rdy0 c ks) {e : E} {v : V} {Q : St → Prop} (hk : (match e with | .loc n _ => isL ks n | .cel n _ => isC ks n | _ => false) = true) (h : vTgt1 c e v σ Q) : WT c e.un v σ Q := by
  cases e <;> first
    | exact False.elim h
    | exact WT.nameP r.K (r.loc hk) (putK_ok h)
    | (obtain ⟨a, o, h1, h2, h⟩ := cel1_ok h
       exact WT.nameC r.K (r.cel hk) h1 h2 h)
theorem WT.mono {t : PySem.Expr} {v : V} {Q Q' : St → Prop} (h : WT c t v σ Q) (hQ : ∀ σ, Q σ → Q' σ) : WT c t v σ Q' := fun s u R hv =>
  wpAny_mono (h s u R hv) (fun _ _ ⟨σ', h1, h2, h3⟩ => ⟨σ', h1, h2, hQ _ h3⟩) fun _ _ x => x
theorem tgt_ok (r : Rdy0 c ks) : ∀ {ts : Es} {vs : List V} {σ : St} {Q : St → Prop}, ts.tgt ks = true → vTgt c ts vs σ Q → WTs c ts.un vs σ Q
  | .nil, vs, _, _, _, h => by
    cases vs with
    | nil => exact h
    | cons _ _ => exact False.elim h
  | .cons e es, vs, σ, Q, hk, h => by
    cases vs with
    | nil => exact False.elim h
    | cons v vs => exact (tgt1_ok r (and2 hk).1 h).mono fun _ q => tgt_ok r (and2 hk).2 q
theorem W.augI (K : c.Ok) {o : PySem.Expr} {n : N} {p pos : Pos} {op : Operator} {e : PySem.Expr} {Q : Fl → St → Prop}
    (h : WV c o σ fun x σ₁ => vAtt σ₁.H n x fun v => WV c e σ₁ fun y σ₂ => ∃ z, Inp op v y z ∧ vSto σ₂ n z x fun σ₃ => Q .next σ₃) : WS c (.AugAssign (.Attribute o (nm n) p) op e pos) σ Q := fun s R => by
  refine wpAny_AugAssign_AttributeAny (wpAny_mono (h s R) (fun u s₁ ⟨x, σ₁, h1, R1, e1, q1⟩ => ?_) fun _ _ x => x)
  obtain ⟨a, C, fs, v, ex, hH, hat, hl, hh, q1'⟩ := vAtt_ok q1
  clear q1
  have q1 := q1'
  subst ex; cases h1
  refine getAttr_inst (K.kin.keeps R1.keep) (R1.objs a _ hH) (attB_ok K.att hat).1 hl hh fun u hu => ?_
  refine wpAny_mono (q1 _ R1.toks) (fun b s₂ ⟨y, σ₂, h2, R2, e2, z, hz, q2⟩ => ?_) fun _ _ x => x
  obtain ⟨a', C₂, fs₂, ex, hH2, hat2, hsz, q2'⟩ := vSto_ok q2
  clear q2
  have q2 := q2'
  cases ex
  refine hz _ _ _ _ _ _ _ _ (hu.evo e2) h2 fun w t hw => ?_
  exact storeA K R2.toks hH2 hat2 hsz hw fun s' R' e' => ⟨.next, _, rfl, R', (e1.trans e2).trans e', q2⟩
theorem W.assignI (K : c.Ok) {o : PySem.Expr} {n : N} {p pos : Pos} {e : PySem.Expr} {Q : Fl → St → Prop}
    (h : WV c e σ fun v σ₁ => WV c o σ₁ fun x σ₂ => vSto σ₂ n v x fun σ₃ => Q .next σ₃)
    (hs : swapsWith e (some (.Attribute o (nm n) p)) pos.line c.env = pure false) : WS c (.Assign [.Attribute o (nm n) p] e pos) σ Q := fun s R => by
  refine plainObj_wpAny_Assign_Attribute (wpAny_mono (h s R) (fun u s₁ ⟨v, σ₁, h1, R1, e1, q1⟩ => ?_) fun _ _ x => x) hs
  refine wpAny_mono (q1 s₁ R1) (fun u2 s₂ ⟨x, σ₂, h2, R2, e2, q2⟩ => ?_) fun _ _ x => x
  obtain ⟨a, C, fs, ex, hH, hat, hsz, q3⟩ := vSto_ok q2
  subst ex; cases h2
  exact storeA K R2 hH hat hsz (h1.evo e2) fun s' R' e' => ⟨.next, _, rfl, R', (e1.trans e2).trans e', q3⟩
theorem lkK_mono {n : N} {k k' : V → Prop} (hk : ∀ v, k v → k' v) : ∀ {l : List (N × V)}, lkK l n k → lkK l n k'
  | [], h => h
  | (a, v) :: r, h => by
    unfold lkK at h ⊢
    cases q : decide (n = a) with
    | true => rw [q] at h; exact hk v h
    | false => rw [q] at h; exact lkK_mono hk (l := r) h
theorem grd_mono {b : Bool} {p p' : Prop} (hp : p → p') (h : vGrd b p) : vGrd b p' := by
  cases b with
  | true => exact hp h
  | false => exact h
theorem vAtt_mono {H : Hp} {n : N} {x : V} {k k' : V → Prop} (h : vAtt H n x k) (hk : ∀ v, k v → k' v) : vAtt H n x k' := by
  obtain ⟨a, e, h'⟩ := ref_ok h
  subst e
  unfold aAtt at h'
  obtain ⟨C, fs, hH, h'⟩ := h'
  exact attI hH (grd_mono (lkK_mono fun v => grd_mono (hk v)) h')
theorem set_ok {x y v : V} {Q : St → Prop} (h : vSet σ x y v Q) : ∃ a vs k, x = .ref a ∧ σ.H a = some (.list vs) ∧ y = .int k ∧ 0 ≤ k ∧ k < vs.length ∧ k < 2 ^ 60 ∧ Q ⟨σ.loc, σ.H.upd a (.list (vs.set k.toNat v))⟩ := by
  obtain ⟨a, e, h⟩ := ref_ok h
  obtain ⟨k, e', vs, ⟨h1, h2, h3, h4⟩, h⟩ := int_ok h
  exact ⟨a, vs, k, e, h1, e', h2, h3, h4, h⟩
noncomputable def BSnd (c : Cx) (ks : Kns) (b : B) : Prop := ∀ {σ : St} {Q : Fl → St → Prop}, b.ok ks = true → b.v c Q σ → WSs c b.un σ Q
noncomputable def SSnd (c : Cx) (ks : Kns) (s : S) : Prop := ∀ {σ : St} {Q : Fl → St → Prop}, s.ok ks = true → s.v c Q σ → WS c s.un σ Q
mutual
theorem S.snd (r : Rdy c ks) : ∀ s : S, SSnd c ks s
  | .asg n e p q => fun hk h => W.assignP r.K (r.loc (and2 (and2 hk).1).1) (((E.snd r.toRdy0 e).v (and2 hk).2 h).mono fun _ _ q => putK_ok q) (un_swap (and2 (and2 hk).1).2 _ _ _)
  | .asc n e p q => fun hk h => W.assignC r.K (r.cel (and2 (and2 hk).1).1) (((E.snd r.toRdy0 e).v (and2 hk).2 h).mono fun _ _ q => cel1_ok q) (un_swap (and2 (and2 hk).1).2 _ _ _)
  | .asa o n e p q => fun hk h => W.assignI r.K (((E.snd r.toRdy0 e).v (and2 hk).2 h).mono fun _ _ q => (E.snd r.toRdy0 o).v (and2 (and2 hk).1).1 q) (un_swap (and2 (and2 hk).1).2 _ _ _)
  | .asi o i e p q => fun hk h => W.assignItem r.K (((E.snd r.toRdy0 e).v (and2 hk).2 h).mono fun _ _ q => ((E.snd r.toRdy0 o).v (and2 (and2 (and2 hk).1).1).1 q).mono fun _ _ q => ((E.snd r.toRdy0 i).v (and2 (and2 (and2 hk).1).1).2 q).mono fun _ _ q => set_ok q) (un_swap (and2 (and2 hk).1).2 _ _ _)
  | .ast ts e k p q => fun hk h => W.assignT r.hh (((E.snd r.toRdy0 e).v (and2 hk).2 h).mono fun _ _ q => by
      obtain ⟨vs, e1, q⟩ := tup_ok q
      obtain ⟨e2, q⟩ := grd_ok q
      exact ⟨vs, e1, (Nat.eq_of_beq_eq_true e2).trans (as_len ts).symm, tgt_ok r.toRdy0 (and2 (and2 hk).1).1 q⟩) (un_each _ _ (and2 (and2 hk).1).1) (un_sole (val_val (and2 (and2 hk).1).2) _ _ _) (un_stores (and2 (and2 hk).1).2 _ _ _ _)
  | .aul n o e p q => fun hk h => let ⟨_, e1, h⟩ := lkK_ok h; W.augP r.K (r.loc (and2 hk).1) e1 (((E.snd r.toRdy0 e).v (and2 hk).2 h).mono fun _ _ q => let ⟨z, e, q⟩ := vInp_ok q; ⟨z, e, putK_ok q⟩)
  | .aua x n o e p q => fun hk h => W.augI r.K (((E.snd r.toRdy0 x).v (and2 hk).1 h).mono fun _ _ q => vAtt_mono q fun _ q => ((E.snd r.toRdy0 e).v (and2 hk).2 q).mono fun _ _ q => vInp_ok q)
  | .exp e p => fun hk h => W.expr r.K ((E.snd r.toRdy0 e).v (and2 hk).2 h) (un_swap (and2 hk).1 _ _ _)
  | .ret e p => fun hk h => W.retE ((E.snd r.toRdy0 e).v hk h)
  | .rtn p => fun _ h => W.retN h
  | .brk p => fun _ h => W.brk h
  | .cnt p => fun _ h => W.cont h
  | .ite t b o p => fun hk h => W.ite (((E.snd r.toRdy0 t).t (and2 (and2 hk).1).1 h).mono fun _ _ q => ⟨fun e => B.snd r b (and2 (and2 hk).1).2 ((ifT q).1 e), fun e => B.snd r o (and2 hk).2 ((ifT q).2 e)⟩)
  | .whl t b p => fun _ h => h.h
  | .for n it b p q => fun _ h => h.h
  | .try b h p => fun _ h => h.h
  | .rai n np p => fun hk h => let ⟨_, e1, h⟩ := lkK_ok h; let ⟨_, e, e2, h⟩ := exc_ok h; W.raiseC r.K r.hh (by rw [e1, e]) (r.glo hk) e2 h
  | .rax n np as cp p => fun hk h => let ⟨_, e1, h⟩ := lkK_ok h; let ⟨_, e, e2, h⟩ := exc_ok h; W.raiseCall r.K r.hh (by rw [e1, e]) (r.glo (and2 hk).1) e2 (((Es.snd r.toRdy0 as).v (and2 hk).2 h).mono fun _ _ q => ⟨Nat.le_of_ble_eq_true (grd_ok q).1, (grd_ok q).2⟩) (as_any _ _ _)
  | .asr t p => fun hk h => W.assert (((E.snd r.toRdy0 t).t hk h).mono fun x _ q => grd_ok q)
  | .hnd .. => fun hk _ => by cases hk
theorem B.snd (r : Rdy c ks) : ∀ b : B, BSnd c ks b
  | .nil => fun _ h => W.nil h
  | .cons s b => fun hk h => W.cons ((S.snd r s (and2 hk).1 h).mono fun f σ₁ q => by cases f <;> first | exact B.snd r b (and2 hk).2 q | exact q)
end

/-! loops -/
/-- names with what they stand for, found in a longer list -/
noncomputable def subL (l : List (N × V)) : List (N × V) → Prop
  | [] => True
  | (n, v) :: r => lkK l n (fun w => w = v) ∧ subL l r
theorem subL_ok {l : List (N × V)} : ∀ {l' : List (N × V)}, subL l l' → ∀ n v, lk l' n = some v → lk l n = some v
  | [], _, _, _, e => by cases e
  | (m, w) :: r, h, n, v, e => by
    unfold lk at e
    by_cases q : n = m
    · subst q
      rw [if_pos rfl] at e
      cases e
      obtain ⟨_, e, rfl⟩ := lkK_ok h.1
      exact e
    · rw [if_neg q] at e
      exact subL_ok (l' := r) h.2 n v e
/-- a while loop: L the names at its head, P what holds there, g what stands for the state -/
theorem RunI.whl {G : Type} (r : Rdy c ks) {t : E} {b : B} {p : Nat} {Q : Fl → St → Prop} (hk : (S.whl t b p).ok ks = true) (L : G → List (N × V)) (P : Nat → G → Hp → Prop) (n : Nat) (g : G) (h0 : subL σ.loc (L g)) (h1 : P n g σ.H)
    (step : ∀ n g H, P n g H → ∀ (J : Fl → St → Prop) (T : St → Prop), (∀ m g' l H', m < n → subL l (L g') → P m g' H' → J .next ⟨l, H'⟩) → (∀ m g' l H', m < n → subL l (L g') → P m g' H' → J .cont ⟨l, H'⟩) →
      (∀ σ, Q .next σ → J .brk σ) → (∀ σ, Q .next σ → T σ) → (∀ v σ, Q (.ret v) σ → J (.ret v) σ) → t.t c ⟨L g, H⟩ fun x σ₁ => cond x (b.v c J σ₁) (T σ₁)) : RunI c (.whl t b p) σ Q :=
  ⟨W.while r.K (fun n σ => ∃ g, subL σ.loc (L g) ∧ P n g σ.H) n ⟨g, h0, h1⟩ fun n σ ⟨g, h1, h2⟩ => W.weak (l' := L g) (((E.snd r.toRdy0 t).t (and2 hk).1 (step n g _ h2 (whK (fun n σ => ∃ g, subL σ.loc (L g) ∧ P n g σ.H) n Q) (Q .next)
    (fun m g' _ _ h h0 h1 => ⟨m, h, g', h0, h1⟩) (fun m g' _ _ h h0 h1 => ⟨m, h, g', h0, h1⟩) (fun _ q => q) (fun _ q => q) (fun _ _ q => q))).mono fun _ _ q => ⟨fun e => B.snd r b (and2 hk).2 ((ifT q).1 e), fun e => W.nil ((ifT q).2 e)⟩) (subL_ok h1)⟩
/-- a loop that ends by break or return alone -/
theorem RunI.whlT {G : Type} (r : Rdy c ks) {k' p' : Nat} {b : B} {p : Nat} {Q : Fl → St → Prop} (hk : b.ok ks = true) (L : G → List (N × V)) (P : Nat → G → Hp → Prop) (n : Nat) (g : G) (h0 : subL σ.loc (L g)) (h1 : P n g σ.H)
    (step : ∀ n g H, P n g H → ∀ (J : Fl → St → Prop), (∀ m g' l H', m < n → subL l (L g') → P m g' H' → J .next ⟨l, H'⟩) → (∀ m g' l H', m < n → subL l (L g') → P m g' H' → J .cont ⟨l, H'⟩) →
      (∀ σ, Q .next σ → J .brk σ) → (∀ v σ, Q (.ret v) σ → J (.ret v) σ) → b.v c J ⟨L g, H⟩) : RunI c (.whl (.boo true k' p') b p) σ Q :=
  RunI.whl r (by show (true && b.ok ks) = true; rw [hk]; rfl) L P n g h0 h1 fun n g H hP J T hN hC hB _ hR => step n g H hP J hN hC hB hR
theorem consI {s : S} {b : B} {Q : Fl → St → Prop} (h : s.v c (seqV (b.v c Q) Q) σ) : (B.cons s b).v c Q σ := h
/-- what follows a statement, hidden -/
theorem hideS {s : S} {A : St → Prop} {J : Fl → St → Prop} (h : ∀ M : St → Prop, (∀ σ, A σ → M σ) → s.v c (seqV M J) σ) : s.v c (seqV A J) σ := h A fun _ x => x
theorem B.snd_cons (r : Rdy c ks) {b : B} (hk : b.ok ks = true) {n : N} {v : V} {l l' : List (N × V)} {H : Hp} {Q : Fl → St → Prop} (hl : subL l l') (h : b.v c Q ⟨put l' n v, H⟩) : WSs c b.un ⟨(n, v) :: l, H⟩ Q :=
  W.weak (σ := ⟨(n, v) :: l, H⟩) (l' := put l' n v) (B.snd r b hk h) fun y w e => by
    rw [lk_put] at e
    show lk ((n, v) :: l) y = some w
    unfold lk
    by_cases q : y = n
    · rw [if_pos q] at e ⊢; exact e
    · rw [if_neg q] at e ⊢; exact subL_ok hl y w e
theorem un_fold (e : E) (env : Env) (x : Value) : foldedSetIterable e.un env x = pure x := by cases e <;> with_unfolding_all rfl
/-- a state may be shown with fewer names -/
inductive Wk (Q : Fl → St → Prop) (f : Fl) (σ : St) : Prop
  | mk (l' : List (N × V)) (h : ∀ n v, lk l' n = some v → lk σ.loc n = some v) (q : Q f ⟨l', σ.H⟩)
theorem Wk.same {Q : Fl → St → Prop} {f : Fl} {σ : St} (q : Q f σ) : Wk Q f σ := ⟨σ.loc, fun _ _ e => e, q⟩
theorem W.relax {st : Stmt} {Q : Fl → St → Prop} (h : WS c st σ (Wk Q)) : WS c st σ Q := fun s r =>
  wpAny_mono (h s r) (fun a s' ⟨b, σ', hR, R1, e, q⟩ => let ⟨l', hs, q⟩ := q; ⟨b, ⟨l', σ'.H⟩, hR, { R1 with locs := let ⟨m, g, k⟩ := R1.locs; ⟨m, g, fun n v z => k n v (hs n v z)⟩ }, e, q⟩) fun _ _ x => x
/-- what is asked of a loop over a list -/
structure ForL {G : Type} (c : Cx) (n : N) (b : B) (Q : Fl → St → Prop) (x : V) (σ₁ : St) (a : Addr) (vs : List V) (L : G → List (N × V)) (P : Addr → Nat → G → Hp → Prop) (g₀ : G) : Prop where
  ex : x = .ref a
  hH : σ₁.H a = some (.list vs)
  h0 : subL σ₁.loc (L g₀) ∧ ∀ it, σ₁.H it = none → P it 0 g₀ (σ₁.H.upd it (.liter a 0))
  at_ : ∀ it i g H, P it i g H → H it = some (.liter a i) ∧ H a = some (.list vs)
  h1 : ∀ it i v g H, vs[i]? = some v → P it i g H → ∀ J : Fl → St → Prop, (∀ g' l H', subL l (L g') → P it (i + 1) g' H' → J .next ⟨l, H'⟩) → (∀ v σ, Q (.ret v) σ → J (.ret v) σ) →
    putK (L g) n v fun l' => b.v c J ⟨l', H.upd it (.liter a (i + 1))⟩
  h2 : ∀ it g H, P it vs.length g H → Q .next ⟨L g, H.del it⟩
theorem RunI.forL {G : Type} (r : Rdy c ks) {n : N} {it : E} {b : B} {p q : Nat} {Q : Fl → St → Prop} (hk : (S.for n it b p q).ok ks = true)
    (h : it.v c σ fun x σ₁ => ∃ a vs L P g, ForL (G := G) c n b Q x σ₁ a vs L P g) : RunI c (.for n it b p q) σ Q :=
  ⟨W.relax (W.forList r.K r.hh (r.loc (and2 (and2 hk).1).1) (((E.snd r.toRdy0 it).v (and2 (and2 hk).1).2 h).mono fun x σ₁ ⟨a, vs, L, P, g₀, h⟩ =>
    ⟨a, vs, fun it i σ => ∃ g, subL σ.loc (L g) ∧ P it i g σ.H, h.ex, h.hH, fun it e => ⟨g₀, h.h0.1, h.h0.2 it e⟩, fun it i v σ₂ hv ⟨g, g1, g2⟩ => ⟨(h.at_ it i g _ g2).1, (h.at_ it i g _ g2).2, B.snd_cons r (and2 hk).2 g1 (putK_ok (h.h1 it i v g _ hv g2 (foK (fun σ => ∃ g, subL σ.loc (L g) ∧ P it (i + 1) g σ.H) (Wk Q))
        (fun g' _ _ e1 e2 => ⟨g', e1, e2⟩) fun _ _ q => Wk.same q))⟩,
      fun it σ₂ ⟨g, g1, g2⟩ => ⟨(h.at_ it _ g _ g2).1, (h.at_ it _ g _ g2).2, ⟨L g, subL_ok g1, h.h2 it g _ g2⟩⟩⟩) (un_fold _ _))⟩
/-- what is asked of a loop over range(k) -/
structure ForR {G : Type} (c : Cx) (n : N) (b : B) (Q : Fl → St → Prop) (x : V) (σ₁ : St) (a : Addr) (k : Nat) (L : G → List (N × V)) (P : Addr → Nat → G → Hp → Prop) (g₀ : G) : Prop where
  ex : x = .ref a
  hH : σ₁.H a = some (.range k)
  hk : k < 1000000
  h0 : subL σ₁.loc (L g₀) ∧ ∀ it, σ₁.H it = none → P it 0 g₀ (σ₁.H.upd it (.riter 0 k))
  at_ : ∀ (it : Addr) (i : Nat) (g : G) (H : Hp), P it i g H → H it = some (.riter i (k - i))
  h1 : ∀ (it : Addr) (i : Nat) (g : G) (H : Hp), i < k → P it i g H → ∀ J : Fl → St → Prop, (∀ g' l H', subL l (L g') → P it (i + 1) g' H' → J .next ⟨l, H'⟩) → (∀ v σ, Q (.ret v) σ → J (.ret v) σ) →
    putK (L g) n (.int i) fun l' => b.v c J ⟨l', H.upd it (.riter (i + 1) (k - i - 1))⟩
  h2 : ∀ it g H, P it k g H → Q .next ⟨L g, H.del it⟩
theorem RunI.forR {G : Type} (r : Rdy c ks) {n : N} {it : E} {b : B} {p q : Nat} {Q : Fl → St → Prop} (hk : (S.for n it b p q).ok ks = true)
    (h : it.v c σ fun x σ₁ => ∃ a k L P g, ForR (G := G) c n b Q x σ₁ a k L P g) : RunI c (.for n it b p q) σ Q :=
  ⟨W.relax (W.forRange r.K r.hh (r.loc (and2 (and2 hk).1).1) (((E.snd r.toRdy0 it).v (and2 (and2 hk).1).2 h).mono fun x σ₁ ⟨a, k, L, P, g₀, h⟩ =>
    ⟨a, k, fun it i σ => ∃ g, subL σ.loc (L g) ∧ P it i g σ.H, h.ex, h.hH, h.hk, fun it e => ⟨g₀, h.h0.1, h.h0.2 it e⟩, fun it i σ₂ hv ⟨g, g1, g2⟩ => ⟨h.at_ it i g _ g2, B.snd_cons r (and2 hk).2 g1 (putK_ok (h.h1 it i g _ hv g2 (foK (fun σ => ∃ g, subL σ.loc (L g) ∧ P it (i + 1) g σ.H) (Wk Q))
        (fun g' _ _ e1 e2 => ⟨g', e1, e2⟩) fun _ _ q => Wk.same q))⟩,
      fun it σ₂ ⟨g, g1, g2⟩ => ⟨(h.at_ it _ g _ g2).trans (by congr 2; omega), ⟨L g, subL_ok g1, h.h2 it g _ g2⟩⟩⟩) (un_fold _ _))⟩

/-! try -/
noncomputable def hvS (s : S) (k : N → B → Prop) : Prop := match s with | .hnd n _ b _ => k n b | _ => False
theorem hvS_ok {s : S} {k : N → B → Prop} (h : hvS s k) : ∃ n np b p, s = .hnd n np b p ∧ k n b := by cases s <;> first | exact False.elim h | exact ⟨_, _, _, _, rfl, h⟩
noncomputable def hvR (s : S) (k : E → Prop) : Prop := match s with | .ret e _ => k e | _ => False
theorem hvR_ok {s : S} {k : E → Prop} (h : hvR s k) : ∃ e p, s = .ret e p ∧ k e := by cases s <;> first | exact False.elim h | exact ⟨_, _, rfl, h⟩
noncomputable def hvB (b : B) (k : E → Prop) : Prop := match b with | .cons s _ => hvR s k | .nil => False
/-- the handlers, each opening with a return -/
noncomputable def HV (c : Cx) (ks : Kns) (Q : Fl → St → Prop) : B → Addr → Hp → Prop
  | .nil, _, _ => False
  | .cons s r, C, H => hvS s fun n b => lkK GT n fun v => vRef v fun T => vGrd (isExc T && isG ks n) (hvB b fun e => vGrd (e.ok ks) (cond (mroHas C T) (∀ cm, Rdy0 cm ks → e.v cm ⟨[], H⟩ fun v σ => Q (.ret v) σ) (HV c ks Q r C H)))
theorem W.consR {e : PySem.Expr} {p : Pos} {rest : List Stmt} {Q : Fl → St → Prop} (h : WV c e σ fun v σ₁ => Q (.ret v) σ₁) : WSs c (.Return (some e) p :: rest) σ Q := W.cons (W.retE h)
theorem hv_ok (r : Rdy c ks) {Q : Fl → St → Prop} {C : Addr} {H : Hp} : ∀ {h : B}, HV c ks Q h C H → HX c Q h.hun C H
  | .nil, h => False.elim h
  | .cons s b, h => by
    obtain ⟨n, np, hb, p, rfl, h⟩ := hvS_ok h
    obtain ⟨v, e1, h⟩ := lkK_ok h
    obtain ⟨T, e2, h⟩ := ref_ok h
    obtain ⟨e3, h⟩ := grd_ok h
    cases hb with
    | nil => exact False.elim h
    | cons s2 b2 =>
      obtain ⟨e, q, rfl, h⟩ := hvR_ok h
      obtain ⟨e4, h⟩ := grd_ok h
      show HX c Q (.ExceptHandler (some (.Name (nm n) (ps np))) none (.Return (some e.un) (ps q) :: b2.un) (ps p) :: b.hun) C H
      unfold HX
      refine ⟨n, T, ps np, _, _, ps p, rfl, by rw [e1, e2], (and2 e3).1, r.glo (and2 e3).2, fun hm cm Km hme hu => ?_, fun hm => hv_ok r ((ifT h).2 hm)⟩
      have r0 : Rdy0 cm ks := ⟨Km, by rw [hu]; exact r.hu, by unfold KN; rw [hme]; exact r.kn⟩
      exact W.consR ((E.snd r0 e).v e4 ((ifT h).1 hm cm r0))
theorem RunI.try (r : Rdy c ks) {b : B} {s : S} {h : B} {p : Nat} {Q : Fl → St → Prop} (hk : b.ok ks = true)
    (hb : ∀ c', Rdy c' ks → (∀ k, c.Calls k → c'.Calls k) → c'.K = c.K → (∀ C H, isExc C = true → HV c ks Q (.cons s h) C H → c'.X C H) → b.v c' Q σ) : RunI c (.try b (.cons s h) p) σ Q :=
  ⟨W.try r.K fun c' K' hc' hA he hK _ hX => B.snd ⟨⟨K', by rw [hA]; exact r.hu, by unfold KN; rw [he]; exact r.kn⟩, by rw [hA]; exact r.hh⟩ b hk (hb c' ⟨⟨K', by rw [hA]; exact r.hu, by unfold KN; rw [he]; exact r.kn⟩, by rw [hA]; exact r.hh⟩ hc' hK fun C H e1 e2 => by
    rw [hX]; exact ⟨e1, hv_ok r e2⟩)⟩

/-! entry -/
/-- the kinds of a def's names, read off its scope -/
theorem Rdy.of {k : Nat} (K : c.Ok) (hc : c.Calls k) {sc : Scope} (hs : c.env.scope = sc) (e : KNl sc.names ks) : Rdy c ks :=
  ⟨⟨K, by have := hc.units; omega, by unfold KN; rw [hs]; exact e⟩, hc.handled⟩
noncomputable def kinds (ks : Kns) : List (Str × NameKind) := ks.map fun p => (nm p.1, p.2)
theorem knl_kinds : ∀ ks : Kns, KNl (kinds ks) ks
  | [] => .nil
  | _ :: ks => .cons (knl_kinds ks)
theorem enterB {k : Nat} (K : c.Ok) (hc : c.Calls k) {sc : Scope} {body : List Stmt} (hs : c.env.scope = sc) {ks : Kns} {b : B} (e1 : sc.names = kinds ks) (e2 : body = b.un) (e3 : b.ok ks = true) {Q : Fl → St → Prop}
    (h : Rdy c ks → b.v c Q σ) : WSs c body σ Q := by
  subst e2
  have r := Rdy.of K hc hs (ks := ks) (by rw [e1]; exact knl_kinds ks)
  exact B.snd r b e3 (h r)
end Mine

end
section
open PySem PySem.W PySem.Calls PyProof.Rows
set_option maxRecDepth 100000
set_option linter.all false
namespace Mine
/-! the walked defs, printed -/
noncomputable def text0N : Kns := [(.kself, .local), (.ktext, .local)]
noncomputable def text0B : B := (.cons (.asa (.loc .kself (nat_lit 17008017012)) .ktext (.loc .ktext (nat_lit 17020017024)) (nat_lit 17008017017) (nat_lit 17008017024)) (.cons (.asa (.loc .kself (nat_lit 18008018012)) .kat (.int 0 0 (nat_lit 18018018019)) (nat_lit 18008018015) (nat_lit 18008018019)) .nil))
noncomputable def readN : Kns := [(.kself, .local), (.kmany, .local), (.kpart, .local), (.klen, .globalImplicit)]
noncomputable def readB : B := (.cons (.asg .kpart (.sli (.att (.loc .kself (nat_lit 21015021019)) .ktext (nat_lit 21015021024)) (.att (.loc .kself (nat_lit 21025021029)) .kat (nat_lit 21025021032)) (.bin .Add (.att (.loc .kself (nat_lit 21033021037)) .kat (nat_lit 21033021040)) (.loc .kmany (nat_lit 21043021047)) (nat_lit 21033021047)) (nat_lit 21025021047) (nat_lit 21015021048)) (nat_lit 21008021012) (nat_lit 21008021048)) (.cons (.asa (.loc .kself (nat_lit 22008022012)) .kat (.bin .Add (.att (.loc .kself (nat_lit 22018022022)) .kat (nat_lit 22018022025)) (.cal .klen (nat_lit 22028022031) (.cons (.loc .kpart (nat_lit 22032022036)) .nil) .nil (nat_lit 22028022037)) (nat_lit 22018022037)) (nat_lit 22008022015) (nat_lit 22008022037)) (.cons (.ret (.loc .kpart (nat_lit 23015023019)) (nat_lit 23008023019)) .nil)))
noncomputable def token0N : Kns := [(.kself, .local), (.kttype, .local), (.kvalue, .local), (.khas_escape, .local), (.kcomment, .local)]
noncomputable def token0B : B := (.cons (.asa (.loc .kself (nat_lit 36008036012)) .kttype (.loc .kttype (nat_lit 36021036026)) (nat_lit 36008036018) (nat_lit 36008036026)) (.cons (.asa (.loc .kself (nat_lit 37008037012)) .kvalue (.loc .kvalue (nat_lit 37021037026)) (nat_lit 37008037018) (nat_lit 37008037026)) (.cons (.asa (.loc .kself (nat_lit 38008038012)) .khas_escape (.loc .khas_escape (nat_lit 38026038036)) (nat_lit 38008038023) (nat_lit 38008038036)) (.cons (.asa (.loc .kself (nat_lit 39008039012)) .kcomment (.loc .kcomment (nat_lit 39023039030)) (nat_lit 39008039020) (nat_lit 39008039030)) .nil))))
noncomputable def isWsN : Kns := [(.kself, .local), (.kWHITESPACE, .globalImplicit)]
noncomputable def isWsB : B := (.cons (.ret (.cmp .Eq (.att (.loc .kself (nat_lit 48015048019)) .kttype (nat_lit 48015048025)) (.glo .kWHITESPACE (nat_lit 48029048039)) (nat_lit 48015048039)) (nat_lit 48008048039)) .nil)
noncomputable def isCmN : Kns := [(.kself, .local), (.kCOMMENT, .globalImplicit)]
noncomputable def isCmB : B := (.cons (.ret (.cmp .Eq (.att (.loc .kself (nat_lit 57015057019)) .kttype (nat_lit 57015057025)) (.glo .kCOMMENT (nat_lit 57029057036)) (nat_lit 57015057036)) (nat_lit 57008057036)) .nil)
noncomputable def tk0N : Kns := [(.kself, .local), (.kf, .local), (.kfilename, .local), (.kisinstance, .globalImplicit), (.kstr, .globalImplicit), (.k_Text, .globalImplicit), (.k_DELIMITERS, .globalImplicit)]
noncomputable def tk0B : B := (.cons (.ite (.cal .kisinstance (nat_lit 86011086021) (.cons (.loc .kf (nat_lit 86022086023)) (.cons (.glo .kstr (nat_lit 86025086028)) .nil)) .nil (nat_lit 86011086029)) (.cons (.ite (.cmp .Is (.loc .kfilename (nat_lit 87015087023)) (.non 0 (nat_lit 87027087031)) (nat_lit 87015087031)) (.cons (.asg .kfilename (.str [60, 115, 116, 114, 105, 110, 103, 62] 0 (nat_lit 88027088037)) (nat_lit 88016088024) (nat_lit 88016088037)) .nil) .nil (nat_lit 87012088037)) (.cons (.asa (.loc .kself (nat_lit 89012089016)) .kfile (.cal .k_Text (nat_lit 89024089029) (.cons (.loc .kf (nat_lit 89030089031)) .nil) .nil (nat_lit 89024089032)) (nat_lit 89012089021) (nat_lit 89012089032)) .nil)) (.cons (.ite (.cmp .Is (.loc .kfilename (nat_lit 91015091023)) (.non 0 (nat_lit 91027091031)) (nat_lit 91015091031)) (.cons (.asg .kfilename (.str [60, 115, 116, 114, 105, 110, 103, 62] 0 (nat_lit 92027092037)) (nat_lit 92016092024) (nat_lit 92016092037)) .nil) .nil (nat_lit 91012092037)) (.cons (.asa (.loc .kself (nat_lit 93012093016)) .kfile (.cal .k_Text (nat_lit 93024093029) (.cons (.met (.loc .kf (nat_lit 93030093031)) .kdecode (nat_lit 93030093038) .nil .nil (nat_lit 93030093040)) .nil) .nil (nat_lit 93024093041)) (nat_lit 93012093021) (nat_lit 93012093041)) .nil)) (nat_lit 86008093041)) (.cons (.asa (.loc .kself (nat_lit 94008094012)) .kungotten_char (.non 0 (nat_lit 94029094033)) (nat_lit 94008094026) (nat_lit 94008094033)) (.cons (.asa (.loc .kself (nat_lit 95008095012)) .kungotten_token (.non 0 (nat_lit 95030095034)) (nat_lit 95008095027) (nat_lit 95008095034)) (.cons (.asa (.loc .kself (nat_lit 96008096012)) .kmultiline (.int 0 0 (nat_lit 96025096026)) (nat_lit 96008096022) (nat_lit 96008096026)) (.cons (.asa (.loc .kself (nat_lit 97008097012)) .kquoting (.boo false 0 (nat_lit 97023097028)) (nat_lit 97008097020) (nat_lit 97008097028)) (.cons (.asa (.loc .kself (nat_lit 98008098012)) .keof (.boo false 0 (nat_lit 98019098024)) (nat_lit 98008098016) (nat_lit 98008098024)) (.cons (.asa (.loc .kself (nat_lit 99008099012)) .kafter_cr (.boo false 0 (nat_lit 99024099029)) (nat_lit 99008099021) (nat_lit 99008099029)) (.cons (.asa (.loc .kself (nat_lit 100008100012)) .kdelimiters (.glo .k_DELIMITERS (nat_lit 100026100037)) (nat_lit 100008100023) (nat_lit 100008100037)) (.cons (.asa (.loc .kself (nat_lit 101008101012)) .kline_number (.int 1 0 (nat_lit 101027101028)) (nat_lit 101008101024) (nat_lit 101008101028)) (.cons (.asr (.cmp .IsNot (.loc .kfilename (nat_lit 102015102023)) (.non 0 (nat_lit 102031102035)) (nat_lit 102015102035)) (nat_lit 102008102035)) (.cons (.asa (.loc .kself (nat_lit 103008103012)) .kfilename (.loc .kfilename (nat_lit 103024103032)) (nat_lit 103008103021) (nat_lit 103008103032)) .nil)))))))))))
noncomputable def getcN : Kns := [(.kself, .local), (.kc, .local)]
noncomputable def getcB : B := (.cons (.ite (.cmp .Is (.att (.loc .kself (nat_lit 106011106015)) .kungotten_char (nat_lit 106011106029)) (.non 0 (nat_lit 106033106037)) (nat_lit 106011106037)) (.cons (.ite (.att (.loc .kself (nat_lit 107015107019)) .keof (nat_lit 107015107023)) (.cons (.asg .kc (.str [] 0 (nat_lit 108020108022)) (nat_lit 108016108017) (nat_lit 108016108022)) .nil) (.cons (.asg .kc (.met (.att (.loc .kself (nat_lit 110020110024)) .kfile (nat_lit 110020110029)) .kread (nat_lit 110020110034) (.cons (.int 1 0 (nat_lit 110035110036)) .nil) .nil (nat_lit 110020110037)) (nat_lit 110016110017) (nat_lit 110016110037)) (.cons (.ite (.att (.loc .kself (nat_lit 111019111023)) .kafter_cr (nat_lit 111019111032)) (.cons (.asa (.loc .kself (nat_lit 112020112024)) .kafter_cr (.boo false 0 (nat_lit 112036112041)) (nat_lit 112020112033) (nat_lit 112020112041)) (.cons (.ite (.cmp .Eq (.loc .kc (nat_lit 113023113024)) (.str [10] 0 (nat_lit 113028113032)) (nat_lit 113023113032)) (.cons (.asg .kc (.met (.att (.loc .kself (nat_lit 114028114032)) .kfile (nat_lit 114028114037)) .kread (nat_lit 114028114042) (.cons (.int 1 0 (nat_lit 114043114044)) .nil) .nil (nat_lit 114028114045)) (nat_lit 114024114025) (nat_lit 114024114045)) .nil) .nil (nat_lit 113020114045)) .nil)) .nil (nat_lit 111016114045)) (.cons (.ite (.bop .And (.cons (.cmp .Eq (.loc .kc (nat_lit 115019115020)) (.str [13] 0 (nat_lit 115024115028)) (nat_lit 115019115028)) (.cons (.not (.att (.loc .kself (nat_lit 115038115042)) .kquoting (nat_lit 115038115050)) (nat_lit 115034115050)) .nil)) (nat_lit 115019115051)) (.cons (.asa (.loc .kself (nat_lit 116020116024)) .kafter_cr (.boo true 0 (nat_lit 116036116040)) (nat_lit 116020116033) (nat_lit 116020116040)) (.cons (.asg .kc (.str [10] 0 (nat_lit 117024117028)) (nat_lit 117020117021) (nat_lit 117020117028)) .nil)) .nil (nat_lit 115016117028)) (.cons (.ite (.cmp .Eq (.loc .kc (nat_lit 118019118020)) (.str [] 0 (nat_lit 118024118026)) (nat_lit 118019118026)) (.cons (.asa (.loc .kself (nat_lit 119020119024)) .keof (.boo true 0 (nat_lit 119031119035)) (nat_lit 119020119028) (nat_lit 119020119035)) .nil) (.cons (.ite (.cmp .Eq (.loc .kc (nat_lit 120021120022)) (.str [10] 0 (nat_lit 120026120030)) (nat_lit 120021120030)) (.cons (.aua (.loc .kself (nat_lit 121020121024)) .kline_number .Add (.int 1 0 (nat_lit 121040121041)) (nat_lit 121020121036) (nat_lit 121020121041)) .nil) .nil (nat_lit 120016121041)) .nil) (nat_lit 118016121041)) .nil)))) (nat_lit 107012121041)) .nil) (.cons (.asg .kc (.att (.loc .kself (nat_lit 123016123020)) .kungotten_char (nat_lit 123016123034)) (nat_lit 123012123013) (nat_lit 123012123034)) (.cons (.asa (.loc .kself (nat_lit 124012124016)) .kungotten_char (.non 0 (nat_lit 124033124037)) (nat_lit 124012124030) (nat_lit 124012124037)) .nil)) (nat_lit 106008124037)) (.cons (.ret (.loc .kc (nat_lit 125015125016)) (nat_lit 125008125016)) .nil))
noncomputable def whereN : Kns := [(.kself, .local)]
noncomputable def whereB : B := (.cons (.ret (.tup (.cons (.att (.loc .kself (nat_lit 128016128020)) .kfilename (nat_lit 128016128029)) (.cons (.att (.loc .kself (nat_lit 128031128035)) .kline_number (nat_lit 128031128047)) .nil)) 0 (nat_lit 128015128048)) (nat_lit 128008128048)) .nil)
noncomputable def ungcN : Kns := [(.kself, .local), (.kc, .local), (.kUngetBufferFull, .globalImplicit)]
noncomputable def ungcB : B := (.cons (.ite (.cmp .IsNot (.att (.loc .kself (nat_lit 131011131015)) .kungotten_char (nat_lit 131011131029)) (.non 0 (nat_lit 131037131041)) (nat_lit 131011131041)) (.cons (.rai .kUngetBufferFull (nat_lit 132018132033) (nat_lit 132012132033)) .nil) .nil (nat_lit 131008132033)) (.cons (.asa (.loc .kself (nat_lit 133008133012)) .kungotten_char (.loc .kc (nat_lit 133029133030)) (nat_lit 133008133026) (nat_lit 133008133030)) .nil))
noncomputable def skipN : Kns := [(.kself, .local), (.kskipped, .local), (.kc, .local)]
noncomputable def skipB : B := (.cons (.asg .kskipped (.int 0 0 (nat_lit 136018136019)) (nat_lit 136008136015) (nat_lit 136008136019)) (.cons (.whl (.boo true 0 (nat_lit 137014137018)) (.cons (.asg .kc (.met (.loc .kself (nat_lit 138016138020)) .k_get_char (nat_lit 138016138030) .nil .nil (nat_lit 138016138032)) (nat_lit 138012138013) (nat_lit 138012138032)) (.cons (.ite (.bop .And (.cons (.cmp .NotEq (.loc .kc (nat_lit 139015139016)) (.str [32] 0 (nat_lit 139020139023)) (nat_lit 139015139023)) (.cons (.cmp .NotEq (.loc .kc (nat_lit 139028139029)) (.str [9] 0 (nat_lit 139033139037)) (nat_lit 139028139037)) .nil)) (nat_lit 139015139037)) (.cons (.ite (.bop .Or (.cons (.cmp .NotEq (.loc .kc (nat_lit 140019140020)) (.str [10] 0 (nat_lit 140024140028)) (nat_lit 140019140028)) (.cons (.not (.att (.loc .kself (nat_lit 140036140040)) .kmultiline (nat_lit 140036140050)) (nat_lit 140032140050)) .nil)) (nat_lit 140019140050)) (.cons (.exp (.met (.loc .kself (nat_lit 141020141024)) .k_unget_char (nat_lit 141020141036) (.cons (.loc .kc (nat_lit 141037141038)) .nil) .nil (nat_lit 141020141039)) (nat_lit 141020141039)) (.cons (.ret (.loc .kskipped (nat_lit 142027142034)) (nat_lit 142020142034)) .nil)) .nil (nat_lit 140016142034)) .nil) .nil (nat_lit 139012142034)) (.cons (.aul .kskipped .Add (.int 1 0 (nat_lit 143023143024)) (nat_lit 143012143019) (nat_lit 143012143024)) .nil))) (nat_lit 137008143024)) .nil))
noncomputable def getN : Kns := [(.kself, .local), (.kwant_leading, .local), (.kwant_comment, .local), (.kutoken, .local), (.kskipped, .local), (.ktoken, .local), (.kttype, .local), (.khas_escape, .local), (.kc, .local), (.kToken, .globalImplicit), (.kWHITESPACE, .globalImplicit), (.kIDENTIFIER, .globalImplicit), (.kUnexpectedEnd, .globalImplicit), (.kQUOTED_STRING, .globalImplicit), (.kDnsSyntaxError, .globalImplicit), (.k_QUOTING_DELIMITERS, .globalImplicit), (.k_DELIMITERS, .globalImplicit), (.kEOL, .globalImplicit), (.kCOMMENT, .globalImplicit), (.kEOF, .globalImplicit), (.kDELIMITER, .globalImplicit)]
noncomputable def getB : B := (.cons (.ite (.cmp .IsNot (.att (.loc .kself (nat_lit 146011146015)) .kungotten_token (nat_lit 146011146030)) (.non 0 (nat_lit 146038146042)) (nat_lit 146011146042)) (.cons (.asg .kutoken (.att (.loc .kself (nat_lit 147021147025)) .kungotten_token (nat_lit 147021147040)) (nat_lit 147012147018) (nat_lit 147012147040)) (.cons (.asa (.loc .kself (nat_lit 148012148016)) .kungotten_token (.non 0 (nat_lit 148034148038)) (nat_lit 148012148031) (nat_lit 148012148038)) (.cons (.ite (.met (.loc .kutoken (nat_lit 149015149021)) .kis_whitespace (nat_lit 149015149035) .nil .nil (nat_lit 149015149037)) (.cons (.ite (.loc .kwant_leading (nat_lit 150019150031)) (.cons (.ret (.loc .kutoken (nat_lit 151027151033)) (nat_lit 151020151033)) .nil) .nil (nat_lit 150016151033)) .nil) (.cons (.ite (.met (.loc .kutoken (nat_lit 152017152023)) .kis_comment (nat_lit 152017152034) .nil .nil (nat_lit 152017152036)) (.cons (.ite (.loc .kwant_comment (nat_lit 153019153031)) (.cons (.ret (.loc .kutoken (nat_lit 154027154033)) (nat_lit 154020154033)) .nil) .nil (nat_lit 153016154033)) .nil) (.cons (.ret (.loc .kutoken (nat_lit 156023156029)) (nat_lit 156016156029)) .nil) (nat_lit 152012156029)) .nil) (nat_lit 149012156029)) .nil))) .nil (nat_lit 146008156029)) (.cons (.asg .kskipped (.met (.loc .kself (nat_lit 157018157022)) .kskip_whitespace (nat_lit 157018157038) .nil .nil (nat_lit 157018157040)) (nat_lit 157008157015) (nat_lit 157008157040)) (.cons (.ite (.bop .And (.cons (.loc .kwant_leading (nat_lit 158011158023)) (.cons (.cmp .Gt (.loc .kskipped (nat_lit 158028158035)) (.int 0 0 (nat_lit 158038158039)) (nat_lit 158028158039)) .nil)) (nat_lit 158011158039)) (.cons (.ret (.cal .kToken (nat_lit 159019159024) (.cons (.glo .kWHITESPACE (nat_lit 159025159035)) (.cons (.str [32] 0 (nat_lit 159037159040)) .nil)) .nil (nat_lit 159019159041)) (nat_lit 159012159041)) .nil) .nil (nat_lit 158008159041)) (.cons (.asg .ktoken (.str [] 0 (nat_lit 160016160018)) (nat_lit 160008160013) (nat_lit 160008160018)) (.cons (.asg .kttype (.glo .kIDENTIFIER (nat_lit 161016161026)) (nat_lit 161008161013) (nat_lit 161008161026)) (.cons (.asg .khas_escape (.boo false 0 (nat_lit 162021162026)) (nat_lit 162008162018) (nat_lit 162008162026)) (.cons (.whl (.boo true 0 (nat_lit 163014163018)) (.cons (.asg .kc (.met (.loc .kself (nat_lit 164016164020)) .k_get_char (nat_lit 164016164030) .nil .nil (nat_lit 164016164032)) (nat_lit 164012164013) (nat_lit 164012164032)) (.cons (.ite (.bop .Or (.cons (.cmp .Eq (.loc .kc (nat_lit 165015165016)) (.str [] 0 (nat_lit 165020165022)) (nat_lit 165015165022)) (.cons (.cmp .In (.loc .kc (nat_lit 165026165027)) (.att (.loc .kself (nat_lit 165031165035)) .kdelimiters (nat_lit 165031165046)) (nat_lit 165026165046)) .nil)) (nat_lit 165015165046)) (.cons (.ite (.bop .And (.cons (.cmp .Eq (.loc .kc (nat_lit 166019166020)) (.str [] 0 (nat_lit 166024166026)) (nat_lit 166019166026)) (.cons (.att (.loc .kself (nat_lit 166031166035)) .kquoting (nat_lit 166031166043)) .nil)) (nat_lit 166019166043)) (.cons (.rai .kUnexpectedEnd (nat_lit 167026167039) (nat_lit 167020167039)) .nil) .nil (nat_lit 166016167039)) (.cons (.ite (.bop .And (.cons (.cmp .Eq (.loc .ktoken (nat_lit 168019168024)) (.str [] 0 (nat_lit 168028168030)) (nat_lit 168019168030)) (.cons (.cmp .NotEq (.loc .kttype (nat_lit 168035168040)) (.glo .kQUOTED_STRING (nat_lit 168044168057)) (nat_lit 168035168057)) .nil)) (nat_lit 168019168057)) (.cons (.ite (.cmp .Eq (.loc .kc (nat_lit 169023169024)) (.str [40] 0 (nat_lit 169028169031)) (nat_lit 169023169031)) (.cons (.aua (.loc .kself (nat_lit 170024170028)) .kmultiline .Add (.int 1 0 (nat_lit 170042170043)) (nat_lit 170024170038) (nat_lit 170024170043)) (.cons (.exp (.met (.loc .kself (nat_lit 171024171028)) .kskip_whitespace (nat_lit 171024171044) .nil .nil (nat_lit 171024171046)) (nat_lit 171024171046)) (.cons (.cnt (nat_lit 172024172032)) .nil))) (.cons (.ite (.cmp .Eq (.loc .kc (nat_lit 173025173026)) (.str [41] 0 (nat_lit 173030173033)) (nat_lit 173025173033)) (.cons (.ite (.cmp .LtE (.att (.loc .kself (nat_lit 174027174031)) .kmultiline (nat_lit 174027174041)) (.int 0 0 (nat_lit 174045174046)) (nat_lit 174027174046)) (.cons (.rai .kDnsSyntaxError (nat_lit 175034175048) (nat_lit 175028175048)) .nil) .nil (nat_lit 174024175048)) (.cons (.aua (.loc .kself (nat_lit 176024176028)) .kmultiline .Sub (.int 1 0 (nat_lit 176042176043)) (nat_lit 176024176038) (nat_lit 176024176043)) (.cons (.exp (.met (.loc .kself (nat_lit 177024177028)) .kskip_whitespace (nat_lit 177024177044) .nil .nil (nat_lit 177024177046)) (nat_lit 177024177046)) (.cons (.cnt (nat_lit 178024178032)) .nil)))) (.cons (.ite (.cmp .Eq (.loc .kc (nat_lit 179025179026)) (.str [34] 0 (nat_lit 179030179033)) (nat_lit 179025179033)) (.cons (.ite (.not (.att (.loc .kself (nat_lit 180031180035)) .kquoting (nat_lit 180031180043)) (nat_lit 180027180043)) (.cons (.asa (.loc .kself (nat_lit 181028181032)) .kquoting (.boo true 0 (nat_lit 181043181047)) (nat_lit 181028181040) (nat_lit 181028181047)) (.cons (.asa (.loc .kself (nat_lit 182028182032)) .kdelimiters (.glo .k_QUOTING_DELIMITERS (nat_lit 182046182065)) (nat_lit 182028182043) (nat_lit 182028182065)) (.cons (.asg .kttype (.glo .kQUOTED_STRING (nat_lit 183036183049)) (nat_lit 183028183033) (nat_lit 183028183049)) (.cons (.cnt (nat_lit 184028184036)) .nil)))) (.cons (.asa (.loc .kself (nat_lit 186028186032)) .kquoting (.boo false 0 (nat_lit 186043186048)) (nat_lit 186028186040) (nat_lit 186028186048)) (.cons (.asa (.loc .kself (nat_lit 187028187032)) .kdelimiters (.glo .k_DELIMITERS (nat_lit 187046187057)) (nat_lit 187028187043) (nat_lit 187028187057)) (.cons (.exp (.met (.loc .kself (nat_lit 188028188032)) .kskip_whitespace (nat_lit 188028188048) .nil .nil (nat_lit 188028188050)) (nat_lit 188028188050)) (.cons (.cnt (nat_lit 189028189036)) .nil)))) (nat_lit 180024189036)) .nil) (.cons (.ite (.cmp .Eq (.loc .kc (nat_lit 190025190026)) (.str [10] 0 (nat_lit 190030190034)) (nat_lit 190025190034)) (.cons (.ret (.cal .kToken (nat_lit 191031191036) (.cons (.glo .kEOL (nat_lit 191037191040)) (.cons (.str [10] 0 (nat_lit 191042191046)) .nil)) .nil (nat_lit 191031191047)) (nat_lit 191024191047)) .nil) (.cons (.ite (.cmp .Eq (.loc .kc (nat_lit 192025192026)) (.str [59] 0 (nat_lit 192030192033)) (nat_lit 192025192033)) (.cons (.whl (.int 1 0 (nat_lit 193030193031)) (.cons (.asg .kc (.met (.loc .kself (nat_lit 194032194036)) .k_get_char (nat_lit 194032194046) .nil .nil (nat_lit 194032194048)) (nat_lit 194028194029) (nat_lit 194028194048)) (.cons (.ite (.bop .Or (.cons (.cmp .Eq (.loc .kc (nat_lit 195031195032)) (.str [10] 0 (nat_lit 195036195040)) (nat_lit 195031195040)) (.cons (.cmp .Eq (.loc .kc (nat_lit 195044195045)) (.str [] 0 (nat_lit 195049195051)) (nat_lit 195044195051)) .nil)) (nat_lit 195031195051)) (.cons (.brk (nat_lit 196032196037)) .nil) .nil (nat_lit 195028196037)) (.cons (.aul .ktoken .Add (.loc .kc (nat_lit 197037197038)) (nat_lit 197028197033) (nat_lit 197028197038)) .nil))) (nat_lit 193024197038)) (.cons (.ite (.loc .kwant_comment (nat_lit 198027198039)) (.cons (.exp (.met (.loc .kself (nat_lit 199028199032)) .k_unget_char (nat_lit 199028199044) (.cons (.loc .kc (nat_lit 199045199046)) .nil) .nil (nat_lit 199028199047)) (nat_lit 199028199047)) (.cons (.ret (.cal .kToken (nat_lit 200035200040) (.cons (.glo .kCOMMENT (nat_lit 200041200048)) (.cons (.loc .ktoken (nat_lit 200050200055)) .nil)) .nil (nat_lit 200035200056)) (nat_lit 200028200056)) .nil)) (.cons (.ite (.cmp .Eq (.loc .kc (nat_lit 201029201030)) (.str [] 0 (nat_lit 201034201036)) (nat_lit 201029201036)) (.cons (.ite (.att (.loc .kself (nat_lit 202031202035)) .kmultiline (nat_lit 202031202045)) (.cons (.rax .kDnsSyntaxError (nat_lit 203038203052) (.cons (.str [117, 110, 98, 97, 108, 97, 110, 99, 101, 100, 32, 112, 97, 114, 101, 110, 116, 104, 101, 115, 101, 115] 0 (nat_lit 203053203077)) .nil) (nat_lit 203038203078) (nat_lit 203032203078)) .nil) .nil (nat_lit 202028203078)) (.cons (.ret (.cal .kToken (nat_lit 204035204040) (.cons (.glo .kEOF (nat_lit 204041204044)) .nil) (.cons .kcomment (.loc .ktoken (nat_lit 204054204059)) (nat_lit 204046204059) .nil) (nat_lit 204035204060)) (nat_lit 204028204060)) .nil)) (.cons (.ite (.att (.loc .kself (nat_lit 205029205033)) .kmultiline (nat_lit 205029205043)) (.cons (.exp (.met (.loc .kself (nat_lit 206028206032)) .kskip_whitespace (nat_lit 206028206048) .nil .nil (nat_lit 206028206050)) (nat_lit 206028206050)) (.cons (.asg .ktoken (.str [] 0 (nat_lit 207036207038)) (nat_lit 207028207033) (nat_lit 207028207038)) (.cons (.cnt (nat_lit 208028208036)) .nil))) (.cons (.ret (.cal .kToken (nat_lit 210035210040) (.cons (.glo .kEOL (nat_lit 210041210044)) (.cons (.str [10] 0 (nat_lit 210046210050)) .nil)) (.cons .kcomment (.loc .ktoken (nat_lit 210060210065)) (nat_lit 210052210065) .nil) (nat_lit 210035210066)) (nat_lit 210028210066)) .nil) (nat_lit 205024210066)) .nil) (nat_lit 201024210066)) .nil) (nat_lit 198024210066)) .nil)) (.cons (.asg .ktoken (.loc .kc (nat_lit 212032212033)) (nat_lit 212024212029) (nat_lit 212024212033)) (.cons (.asg .kttype (.glo .kDELIMITER (nat_lit 213032213041)) (nat_lit 213024213029) (nat_lit 213024213041)) .nil)) (nat_lit 192020213041)) .nil) (nat_lit 190020213041)) .nil) (nat_lit 179020213041)) .nil) (nat_lit 173020213041)) .nil) (nat_lit 169020213041)) .nil) (.cons (.exp (.met (.loc .kself (nat_lit 215020215024)) .k_unget_char (nat_lit 215020215036) (.cons (.loc .kc (nat_lit 215037215038)) .nil) .nil (nat_lit 215020215039)) (nat_lit 215020215039)) .nil) (nat_lit 168016215039)) (.cons (.brk (nat_lit 216016216021)) .nil))) (.cons (.ite (.bop .And (.cons (.att (.loc .kself (nat_lit 217017217021)) .kquoting (nat_lit 217017217029)) (.cons (.cmp .Eq (.loc .kc (nat_lit 217034217035)) (.str [10] 0 (nat_lit 217039217043)) (nat_lit 217034217043)) .nil)) (nat_lit 217017217043)) (.cons (.rax .kDnsSyntaxError (nat_lit 218022218036) (.cons (.str [110, 101, 119, 108, 105, 110, 101, 32, 105, 110, 32, 113, 117, 111, 116, 101, 100, 32, 115, 116, 114, 105, 110, 103] 0 (nat_lit 218037218063)) .nil) (nat_lit 218022218064) (nat_lit 218016218064)) .nil) (.cons (.ite (.cmp .Eq (.loc .kc (nat_lit 219017219018)) (.str [92] 0 (nat_lit 219022219026)) (nat_lit 219017219026)) (.cons (.aul .ktoken .Add (.loc .kc (nat_lit 220025220026)) (nat_lit 220016220021) (nat_lit 220016220026)) (.cons (.asg .khas_escape (.boo true 0 (nat_lit 221029221033)) (nat_lit 221016221026) (nat_lit 221016221033)) (.cons (.asg .kc (.met (.loc .kself (nat_lit 222020222024)) .k_get_char (nat_lit 222020222034) .nil .nil (nat_lit 222020222036)) (nat_lit 222016222017) (nat_lit 222016222036)) (.cons (.ite (.bop .Or (.cons (.cmp .Eq (.loc .kc (nat_lit 223019223020)) (.str [] 0 (nat_lit 223024223026)) (nat_lit 223019223026)) (.cons (.bop .And (.cons (.cmp .Eq (.loc .kc (nat_lit 223031223032)) (.str [10] 0 (nat_lit 223036223040)) (nat_lit 223031223040)) (.cons (.not (.att (.loc .kself (nat_lit 223050223054)) .kquoting (nat_lit 223050223062)) (nat_lit 223046223062)) .nil)) (nat_lit 223031223063)) .nil)) (nat_lit 223019223064)) (.cons (.rai .kUnexpectedEnd (nat_lit 224026224039) (nat_lit 224020224039)) .nil) .nil (nat_lit 223016224039)) .nil)))) .nil (nat_lit 219012224039)) .nil) (nat_lit 217012224039)) .nil) (nat_lit 165012224039)) (.cons (.aul .ktoken .Add (.loc .kc (nat_lit 225021225022)) (nat_lit 225012225017) (nat_lit 225012225022)) .nil))) (nat_lit 163008225022)) (.cons (.ite (.bop .And (.cons (.cmp .Eq (.loc .ktoken (nat_lit 226011226016)) (.str [] 0 (nat_lit 226020226022)) (nat_lit 226011226022)) (.cons (.cmp .NotEq (.loc .kttype (nat_lit 226027226032)) (.glo .kQUOTED_STRING (nat_lit 226036226049)) (nat_lit 226027226049)) .nil)) (nat_lit 226011226049)) (.cons (.ite (.att (.loc .kself (nat_lit 227015227019)) .kmultiline (nat_lit 227015227029)) (.cons (.rax .kDnsSyntaxError (nat_lit 228022228036) (.cons (.str [117, 110, 98, 97, 108, 97, 110, 99, 101, 100, 32, 112, 97, 114, 101, 110, 116, 104, 101, 115, 101, 115] 0 (nat_lit 228037228061)) .nil) (nat_lit 228022228062) (nat_lit 228016228062)) .nil) .nil (nat_lit 227012228062)) (.cons (.asg .kttype (.glo .kEOF (nat_lit 229020229023)) (nat_lit 229012229017) (nat_lit 229012229023)) .nil)) .nil (nat_lit 226008229023)) (.cons (.ret (.cal .kToken (nat_lit 230015230020) (.cons (.loc .kttype (nat_lit 230021230026)) (.cons (.loc .ktoken (nat_lit 230028230033)) (.cons (.loc .khas_escape (nat_lit 230035230045)) .nil))) .nil (nat_lit 230015230046)) (nat_lit 230008230046)) .nil)))))))))
noncomputable def ungetN : Kns := [(.kself, .local), (.ktoken, .local), (.kUngetBufferFull, .globalImplicit)]
noncomputable def ungetB : B := (.cons (.ite (.cmp .IsNot (.att (.loc .kself (nat_lit 233011233015)) .kungotten_token (nat_lit 233011233030)) (.non 0 (nat_lit 233038233042)) (nat_lit 233011233042)) (.cons (.rai .kUngetBufferFull (nat_lit 234018234033) (nat_lit 234012234033)) .nil) .nil (nat_lit 233008234033)) (.cons (.asa (.loc .kself (nat_lit 235008235012)) .kungotten_token (.loc .ktoken (nat_lit 235030235035)) (nat_lit 235008235027) (nat_lit 235008235035)) .nil))
noncomputable def rowN : Kns := [(.kscript, .local), (.krow, .local), (.kplace, .local), (.klist, .globalImplicit), (.kLAW_ROW, .globalImplicit), (.krange, .globalImplicit), (.kmin, .globalImplicit), (.klen, .globalImplicit)]
noncomputable def rowB : B := (.cons (.asg .krow (.cal .klist (nat_lit 310010310014) (.cons (.glo .kLAW_ROW (nat_lit 310015310022)) .nil) .nil (nat_lit 310010310023)) (nat_lit 310004310007) (nat_lit 310004310023)) (.cons (.for .kplace (.cal .krange (nat_lit 311017311022) (.cons (.cal .kmin (nat_lit 311023311026) (.cons (.cal .klen (nat_lit 311027311030) (.cons (.loc .kscript (nat_lit 311031311037)) .nil) .nil (nat_lit 311027311038)) (.cons (.cal .klen (nat_lit 311040311043) (.cons (.loc .krow (nat_lit 311044311047)) .nil) .nil (nat_lit 311040311048)) .nil)) .nil (nat_lit 311023311049)) .nil) .nil (nat_lit 311017311050)) (.cons (.asi (.loc .krow (nat_lit 312008312011)) (.loc .kplace (nat_lit 312012312017)) (.bin .Mod (.sub (.loc .kscript (nat_lit 312021312027)) (.loc .kplace (nat_lit 312028312033)) (nat_lit 312021312034)) (.int (nat_lit 1000000) 0 (nat_lit 312037312044)) (nat_lit 312021312044)) (nat_lit 312008312018) (nat_lit 312008312044)) .nil) (nat_lit 311008311013) (nat_lit 311004312044)) (.cons (.ret (.loc .krow (nat_lit 313011313014)) (nat_lit 313004313014)) .nil)))
noncomputable def textN : Kns := [(.knumbers, .local), (.ktext, .local), (.knumber, .local), (.kchr, .globalImplicit), (.kLAW_SIGNS, .globalImplicit)]
noncomputable def textB : B := (.cons (.asg .ktext (.str [] 0 (nat_lit 315011315013)) (nat_lit 315004315008) (nat_lit 315004315013)) (.cons (.for .knumber (.loc .knumbers (nat_lit 316018316025)) (.cons (.ite (.cmp .Eq (.bin .Mod (.loc .knumber (nat_lit 317011317017)) (.int 24 0 (nat_lit 317020317022)) (nat_lit 317011317022)) (.int 12 0 (nat_lit 317026317028)) (nat_lit 317011317028)) (.cons (.aul .ktext .Add (.cal .kchr (nat_lit 318020318023) (.cons (.int 233 0 (nat_lit 318024318027)) .nil) .nil (nat_lit 318020318028)) (nat_lit 318012318016) (nat_lit 318012318028)) .nil) (.cons (.aul .ktext .Add (.sub (.glo .kLAW_SIGNS (nat_lit 320020320029)) (.bin .Mod (.loc .knumber (nat_lit 320030320036)) (.int 24 0 (nat_lit 320039320041)) (nat_lit 320030320041)) (nat_lit 320020320042)) (nat_lit 320012320016) (nat_lit 320012320042)) .nil) (nat_lit 317008320042)) .nil) (nat_lit 316008316014) (nat_lit 316004320042)) (.cons (.ret (.sl0 (.loc .ktext (nat_lit 321011321015)) (.int 40 0 (nat_lit 321017321019)) (nat_lit 321016321019) (nat_lit 321011321020)) (nat_lit 321004321020)) .nil)))
noncomputable def bodyN : Kns := [(.ktext, .local), (.kat, .local), (.kinside, .local), (.kstop, .local), (.kstoppers, .local), (.kescaped, .local), (.klines, .local), (.klen, .globalImplicit)]
noncomputable def bodyB : B := (.cons (.asg .kstop (.ife (.loc .kinside (nat_lit 323021323027)) (.bin .Add (.loc .kat (nat_lit 323011323013)) (.int 1 0 (nat_lit 323016323017)) (nat_lit 323011323017)) (.loc .kat (nat_lit 323033323035)) (nat_lit 323011323035)) (nat_lit 323004323008) (nat_lit 323004323035)) (.cons (.asg .kstoppers (.ife (.loc .kinside (nat_lit 324024324030)) (.str [34, 10] 0 (nat_lit 324015324020)) (.str [32, 9, 13, 10, 59, 40, 41, 34] 0 (nat_lit 324036324049)) (nat_lit 324015324049)) (nat_lit 324004324012) (nat_lit 324004324049)) (.cons (.asg .kescaped (.boo false 0 (nat_lit 325014325019)) (nat_lit 325004325011) (nat_lit 325004325019)) (.cons (.asg .klines (.lis .nil (nat_lit 326012326014)) (nat_lit 326004326009) (nat_lit 326004326014)) (.cons (.whl (.bop .And (.cons (.cmp .Lt (.loc .kstop (nat_lit 327010327014)) (.cal .klen (nat_lit 327017327020) (.cons (.loc .ktext (nat_lit 327021327025)) .nil) .nil (nat_lit 327017327026)) (nat_lit 327010327026)) (.cons (.cmp .NotIn (.sub (.loc .ktext (nat_lit 327031327035)) (.loc .kstop (nat_lit 327036327040)) (nat_lit 327031327041)) (.loc .kstoppers (nat_lit 327049327057)) (nat_lit 327031327057)) .nil)) (nat_lit 327010327057)) (.cons (.ite (.cmp .Eq (.sub (.loc .ktext (nat_lit 328011328015)) (.loc .kstop (nat_lit 328016328020)) (nat_lit 328011328021)) (.str [92] 0 (nat_lit 328025328029)) (nat_lit 328011328029)) (.cons (.asg .kescaped (.boo true 0 (nat_lit 329022329026)) (nat_lit 329012329019) (nat_lit 329012329026)) (.cons (.aul .kstop .Add (.int 1 0 (nat_lit 330020330021)) (nat_lit 330012330016) (nat_lit 330012330021)) (.cons (.ite (.cmp .Eq (.loc .kstop (nat_lit 331015331019)) (.cal .klen (nat_lit 331023331026) (.cons (.loc .ktext (nat_lit 331027331031)) .nil) .nil (nat_lit 331023331032)) (nat_lit 331015331032)) (.cons (.ret (.tup (.cons (.str [101, 110, 100] 0 (nat_lit 332024332029)) (.cons (.loc .kstop (nat_lit 332031332035)) (.cons (.loc .kescaped (nat_lit 332037332044)) (.cons (.loc .klines (nat_lit 332046332051)) .nil)))) 0 (nat_lit 332023332052)) (nat_lit 332016332052)) .nil) .nil (nat_lit 331012332052)) (.cons (.ite (.bop .And (.cons (.cmp .In (.sub (.loc .ktext (nat_lit 333015333019)) (.loc .kstop (nat_lit 333020333024)) (nat_lit 333015333025)) (.str [13, 10] 0 (nat_lit 333029333035)) (nat_lit 333015333035)) (.cons (.not (.loc .kinside (nat_lit 333045333051)) (nat_lit 333041333051)) .nil)) (nat_lit 333015333052)) (.cons (.exp (.met (.loc .klines (nat_lit 334016334021)) .kappend (nat_lit 334016334028) (.cons (.loc .kstop (nat_lit 334029334033)) .nil) .nil (nat_lit 334016334034)) (nat_lit 334016334034)) (.cons (.ret (.tup (.cons (.str [101, 110, 100] 0 (nat_lit 335024335029)) (.cons (.bin .Add (.loc .kstop (nat_lit 335031335035)) (.int 1 0 (nat_lit 335038335039)) (nat_lit 335031335039)) (.cons (.loc .kescaped (nat_lit 335041335048)) (.cons (.loc .klines (nat_lit 335050335055)) .nil)))) 0 (nat_lit 335023335056)) (nat_lit 335016335056)) .nil)) .nil (nat_lit 333012335056)) (.cons (.ite (.cmp .Eq (.sub (.loc .ktext (nat_lit 336015336019)) (.loc .kstop (nat_lit 336020336024)) (nat_lit 336015336025)) (.str [10] 0 (nat_lit 336029336033)) (nat_lit 336015336033)) (.cons (.exp (.met (.loc .klines (nat_lit 337016337021)) .kappend (nat_lit 337016337028) (.cons (.loc .kstop (nat_lit 337029337033)) .nil) .nil (nat_lit 337016337034)) (nat_lit 337016337034)) .nil) .nil (nat_lit 336012337034)) .nil))))) .nil (nat_lit 328008337034)) (.cons (.aul .kstop .Add (.int 1 0 (nat_lit 338016338017)) (nat_lit 338008338012) (nat_lit 338008338017)) .nil)) (nat_lit 327004338017)) (.cons (.ite (.bop .And (.cons (.loc .kinside (nat_lit 339007339013)) (.cons (.cmp .Eq (.loc .kstop (nat_lit 339018339022)) (.cal .klen (nat_lit 339026339029) (.cons (.loc .ktext (nat_lit 339030339034)) .nil) .nil (nat_lit 339026339035)) (nat_lit 339018339035)) .nil)) (nat_lit 339007339035)) (.cons (.ret (.tup (.cons (.str [101, 110, 100] 0 (nat_lit 340016340021)) (.cons (.loc .kstop (nat_lit 340023340027)) (.cons (.loc .kescaped (nat_lit 340029340036)) (.cons (.loc .klines (nat_lit 340038340043)) .nil)))) 0 (nat_lit 340015340044)) (nat_lit 340008340044)) .nil) .nil (nat_lit 339004340044)) (.cons (.ite (.bop .And (.cons (.loc .kinside (nat_lit 341007341013)) (.cons (.cmp .Eq (.sub (.loc .ktext (nat_lit 341018341022)) (.loc .kstop (nat_lit 341023341027)) (nat_lit 341018341028)) (.str [10] 0 (nat_lit 341032341036)) (nat_lit 341018341036)) .nil)) (nat_lit 341007341036)) (.cons (.exp (.met (.loc .klines (nat_lit 342008342013)) .kappend (nat_lit 342008342020) (.cons (.loc .kstop (nat_lit 342021342025)) .nil) .nil (nat_lit 342008342026)) (nat_lit 342008342026)) (.cons (.ret (.tup (.cons (.str [116, 111, 114, 110] 0 (nat_lit 343016343022)) (.cons (.bin .Add (.loc .kstop (nat_lit 343024343028)) (.int 1 0 (nat_lit 343031343032)) (nat_lit 343024343032)) (.cons (.loc .kescaped (nat_lit 343034343041)) (.cons (.loc .klines (nat_lit 343043343048)) .nil)))) 0 (nat_lit 343015343049)) (nat_lit 343008343049)) .nil)) .nil (nat_lit 341004343049)) (.cons (.ret (.tup (.cons (.ife (.loc .kinside (nat_lit 344024344030)) (.str [113, 117, 111, 116, 101, 100] 0 (nat_lit 344012344020)) (.str [119, 111, 114, 100] 0 (nat_lit 344036344042)) (nat_lit 344012344042)) (.cons (.loc .kstop (nat_lit 344044344048)) (.cons (.loc .kescaped (nat_lit 344050344057)) (.cons (.loc .klines (nat_lit 344059344064)) .nil)))) 0 (nat_lit 344011344065)) (nat_lit 344004344065)) .nil))))))))
noncomputable def piecesN : Kns := [(.ktext, .local), (.kpieces, .local), (.klines, .local), (.kat, .local), (.ksign, .local), (.kstop, .local), (.kkind, .local), (.kescaped, .local), (.kends, .local), (.kend, .local), (.klen, .globalImplicit), (.k_law_body, .globalImplicit)]
noncomputable def piecesB : B := (.cons (.asg .kpieces (.lis .nil (nat_lit 346013346015)) (nat_lit 346004346010) (nat_lit 346004346015)) (.cons (.asg .klines (.lis .nil (nat_lit 347012347014)) (nat_lit 347004347009) (nat_lit 347004347014)) (.cons (.asg .kat (.int 0 0 (nat_lit 348009348010)) (nat_lit 348004348006) (nat_lit 348004348010)) (.cons (.whl (.cmp .Lt (.loc .kat (nat_lit 349010349012)) (.cal .klen (nat_lit 349015349018) (.cons (.loc .ktext (nat_lit 349019349023)) .nil) .nil (nat_lit 349015349024)) (nat_lit 349010349024)) (.cons (.asg .ksign (.sub (.loc .ktext (nat_lit 350015350019)) (.loc .kat (nat_lit 350020350022)) (nat_lit 350015350023)) (nat_lit 350008350012) (nat_lit 350008350023)) (.cons (.ite (.bop .Or (.cons (.cmp .Eq (.loc .ksign (nat_lit 351011351015)) (.str [32] 0 (nat_lit 351019351022)) (nat_lit 351011351022)) (.cons (.cmp .Eq (.loc .ksign (nat_lit 351026351030)) (.str [9] 0 (nat_lit 351034351038)) (nat_lit 351026351038)) .nil)) (nat_lit 351011351038)) (.cons (.exp (.met (.loc .kpieces (nat_lit 352012352018)) .kappend (nat_lit 352012352025) (.cons (.tup (.cons (.str [98, 108, 97, 110, 107] 0 (nat_lit 352027352034)) (.cons (.loc .kat (nat_lit 352036352038)) (.cons (.bin .Add (.loc .kat (nat_lit 352040352042)) (.int 1 0 (nat_lit 352045352046)) (nat_lit 352040352046)) (.cons (.str [] 0 (nat_lit 352048352050)) (.cons (.boo false 0 (nat_lit 352052352057)) .nil))))) 0 (nat_lit 352026352058)) .nil) .nil (nat_lit 352012352059)) (nat_lit 352012352059)) .nil) (.cons (.ite (.bop .Or (.cons (.cmp .Eq (.loc .ksign (nat_lit 353013353017)) (.str [40] 0 (nat_lit 353021353024)) (nat_lit 353013353024)) (.cons (.cmp .Eq (.loc .ksign (nat_lit 353028353032)) (.str [41] 0 (nat_lit 353036353039)) (nat_lit 353028353039)) .nil)) (nat_lit 353013353039)) (.cons (.exp (.met (.loc .kpieces (nat_lit 354012354018)) .kappend (nat_lit 354012354025) (.cons (.tup (.cons (.loc .ksign (nat_lit 354027354031)) (.cons (.loc .kat (nat_lit 354033354035)) (.cons (.bin .Add (.loc .kat (nat_lit 354037354039)) (.int 1 0 (nat_lit 354042354043)) (nat_lit 354037354043)) (.cons (.str [] 0 (nat_lit 354045354047)) (.cons (.boo false 0 (nat_lit 354049354054)) .nil))))) 0 (nat_lit 354026354055)) .nil) .nil (nat_lit 354012354056)) (nat_lit 354012354056)) .nil) (.cons (.ite (.bop .Or (.cons (.cmp .Eq (.loc .ksign (nat_lit 355013355017)) (.str [13] 0 (nat_lit 355021355025)) (nat_lit 355013355025)) (.cons (.cmp .Eq (.loc .ksign (nat_lit 355029355033)) (.str [10] 0 (nat_lit 355037355041)) (nat_lit 355029355041)) .nil)) (nat_lit 355013355041)) (.cons (.exp (.met (.loc .klines (nat_lit 356012356017)) .kappend (nat_lit 356012356024) (.cons (.loc .kat (nat_lit 356025356027)) .nil) .nil (nat_lit 356012356028)) (nat_lit 356012356028)) (.cons (.asg .kstop (.bin .Add (.loc .kat (nat_lit 357019357021)) (.int 1 0 (nat_lit 357024357025)) (nat_lit 357019357025)) (nat_lit 357012357016) (nat_lit 357012357025)) (.cons (.ite (.cmp .Eq (.sli (.loc .ktext (nat_lit 358015358019)) (.loc .kat (nat_lit 358020358022)) (.bin .Add (.loc .kat (nat_lit 358023358025)) (.int 2 0 (nat_lit 358028358029)) (nat_lit 358023358029)) (nat_lit 358020358029) (nat_lit 358015358030)) (.str [13, 10] 0 (nat_lit 358034358040)) (nat_lit 358015358040)) (.cons (.asg .kstop (.bin .Add (.loc .kat (nat_lit 359023359025)) (.int 2 0 (nat_lit 359028359029)) (nat_lit 359023359029)) (nat_lit 359016359020) (nat_lit 359016359029)) .nil) .nil (nat_lit 358012359029)) (.cons (.exp (.met (.loc .kpieces (nat_lit 360012360018)) .kappend (nat_lit 360012360025) (.cons (.tup (.cons (.str [108, 105, 110, 101] 0 (nat_lit 360027360033)) (.cons (.loc .kat (nat_lit 360035360037)) (.cons (.loc .kstop (nat_lit 360039360043)) (.cons (.str [] 0 (nat_lit 360045360047)) (.cons (.boo false 0 (nat_lit 360049360054)) .nil))))) 0 (nat_lit 360026360055)) .nil) .nil (nat_lit 360012360056)) (nat_lit 360012360056)) .nil)))) (.cons (.ite (.cmp .Eq (.loc .ksign (nat_lit 361013361017)) (.str [59] 0 (nat_lit 361021361024)) (nat_lit 361013361024)) (.cons (.asg .kstop (.bin .Add (.loc .kat (nat_lit 362019362021)) (.int 1 0 (nat_lit 362024362025)) (nat_lit 362019362025)) (nat_lit 362012362016) (nat_lit 362012362025)) (.cons (.whl (.bop .And (.cons (.cmp .Lt (.loc .kstop (nat_lit 363018363022)) (.cal .klen (nat_lit 363025363028) (.cons (.loc .ktext (nat_lit 363029363033)) .nil) .nil (nat_lit 363025363034)) (nat_lit 363018363034)) (.cons (.cmp .NotIn (.sub (.loc .ktext (nat_lit 363039363043)) (.loc .kstop (nat_lit 363044363048)) (nat_lit 363039363049)) (.str [13, 10] 0 (nat_lit 363057363063)) (nat_lit 363039363063)) .nil)) (nat_lit 363018363063)) (.cons (.aul .kstop .Add (.int 1 0 (nat_lit 364024364025)) (nat_lit 364016364020) (nat_lit 364016364025)) .nil) (nat_lit 363012364025)) (.cons (.exp (.met (.loc .kpieces (nat_lit 365012365018)) .kappend (nat_lit 365012365025) (.cons (.tup (.cons (.str [99, 111, 109, 109, 101, 110, 116] 0 (nat_lit 365027365036)) (.cons (.loc .kat (nat_lit 365038365040)) (.cons (.loc .kstop (nat_lit 365042365046)) (.cons (.sli (.loc .ktext (nat_lit 365048365052)) (.bin .Add (.loc .kat (nat_lit 365053365055)) (.int 1 0 (nat_lit 365058365059)) (nat_lit 365053365059)) (.loc .kstop (nat_lit 365060365064)) (nat_lit 365053365064) (nat_lit 365048365065)) (.cons (.boo false 0 (nat_lit 365067365072)) .nil))))) 0 (nat_lit 365026365073)) .nil) .nil (nat_lit 365012365074)) (nat_lit 365012365074)) .nil))) (.cons (.ast (.cons (.loc .kkind (nat_lit 367012367016)) (.cons (.loc .kstop (nat_lit 367018367022)) (.cons (.loc .kescaped (nat_lit 367024367031)) (.cons (.loc .kends (nat_lit 367033367037)) .nil)))) (.cal .k_law_body (nat_lit 367040367049) (.cons (.loc .ktext (nat_lit 367050367054)) (.cons (.loc .kat (nat_lit 367056367058)) (.cons (.cmp .Eq (.loc .ksign (nat_lit 367060367064)) (.str [34] 0 (nat_lit 367068367071)) (nat_lit 367060367071)) .nil))) .nil (nat_lit 367040367072)) 0 (nat_lit 367012367037) (nat_lit 367012367072)) (.cons (.for .kend (.loc .kends (nat_lit 368023368027)) (.cons (.exp (.met (.loc .klines (nat_lit 369016369021)) .kappend (nat_lit 369016369028) (.cons (.loc .kend (nat_lit 369029369032)) .nil) .nil (nat_lit 369016369033)) (nat_lit 369016369033)) .nil) (nat_lit 368016368019) (nat_lit 368012369033)) (.cons (.ite (.cmp .Eq (.loc .kkind (nat_lit 370015370019)) (.str [113, 117, 111, 116, 101, 100] 0 (nat_lit 370023370031)) (nat_lit 370015370031)) (.cons (.exp (.met (.loc .kpieces (nat_lit 371016371022)) .kappend (nat_lit 371016371029) (.cons (.tup (.cons (.loc .kkind (nat_lit 371031371035)) (.cons (.loc .kat (nat_lit 371037371039)) (.cons (.loc .kstop (nat_lit 371041371045)) (.cons (.sli (.loc .ktext (nat_lit 371047371051)) (.bin .Add (.loc .kat (nat_lit 371052371054)) (.int 1 0 (nat_lit 371057371058)) (nat_lit 371052371058)) (.loc .kstop (nat_lit 371059371063)) (nat_lit 371052371063) (nat_lit 371047371064)) (.cons (.loc .kescaped (nat_lit 371066371073)) .nil))))) 0 (nat_lit 371030371074)) .nil) .nil (nat_lit 371016371075)) (nat_lit 371016371075)) (.cons (.exp (.met (.loc .kpieces (nat_lit 372016372022)) .kappend (nat_lit 372016372029) (.cons (.tup (.cons (.str [99, 108, 111, 115, 101] 0 (nat_lit 372031372038)) (.cons (.loc .kstop (nat_lit 372040372044)) (.cons (.bin .Add (.loc .kstop (nat_lit 372046372050)) (.int 1 0 (nat_lit 372053372054)) (nat_lit 372046372054)) (.cons (.str [] 0 (nat_lit 372056372058)) (.cons (.boo false 0 (nat_lit 372060372065)) .nil))))) 0 (nat_lit 372030372066)) .nil) .nil (nat_lit 372016372067)) (nat_lit 372016372067)) .nil)) (.cons (.exp (.met (.loc .kpieces (nat_lit 374016374022)) .kappend (nat_lit 374016374029) (.cons (.tup (.cons (.loc .kkind (nat_lit 374031374035)) (.cons (.loc .kat (nat_lit 374037374039)) (.cons (.loc .kstop (nat_lit 374041374045)) (.cons (.sli (.loc .ktext (nat_lit 374047374051)) (.loc .kat (nat_lit 374052374054)) (.loc .kstop (nat_lit 374055374059)) (nat_lit 374052374059) (nat_lit 374047374060)) (.cons (.loc .kescaped (nat_lit 374062374069)) .nil))))) 0 (nat_lit 374030374070)) .nil) .nil (nat_lit 374016374071)) (nat_lit 374016374071)) .nil) (nat_lit 370012374071)) (.cons (.ite (.bop .Or (.cons (.cmp .Eq (.loc .kkind (nat_lit 375015375019)) (.str [101, 110, 100] 0 (nat_lit 375023375028)) (nat_lit 375015375028)) (.cons (.cmp .Eq (.loc .kkind (nat_lit 375032375036)) (.str [116, 111, 114, 110] 0 (nat_lit 375040375046)) (nat_lit 375032375046)) .nil)) (nat_lit 375015375046)) (.cons (.ret (.tup (.cons (.loc .kpieces (nat_lit 376024376030)) (.cons (.loc .klines (nat_lit 376032376037)) .nil)) 0 (nat_lit 376023376038)) (nat_lit 376016376038)) .nil) .nil (nat_lit 375012376038)) .nil)))) (nat_lit 361008376038)) .nil) (nat_lit 355008376038)) .nil) (nat_lit 353008376038)) .nil) (nat_lit 351008376038)) (.cons (.asg .kat (.sub (.sub (.loc .kpieces (nat_lit 377013377019)) (.neg 1 0 (nat_lit 377021377022) (nat_lit 377020377022)) (nat_lit 377013377023)) (.int 2 0 (nat_lit 377024377025)) (nat_lit 377013377026)) (nat_lit 377008377010) (nat_lit 377008377026)) .nil))) (nat_lit 349004377026)) (.cons (.exp (.met (.loc .kpieces (nat_lit 378004378010)) .kappend (nat_lit 378004378017) (.cons (.tup (.cons (.str [111, 118, 101, 114] 0 (nat_lit 378019378025)) (.cons (.loc .kat (nat_lit 378027378029)) (.cons (.loc .kat (nat_lit 378031378033)) (.cons (.str [] 0 (nat_lit 378035378037)) (.cons (.boo false 0 (nat_lit 378039378044)) .nil))))) 0 (nat_lit 378018378045)) .nil) .nil (nat_lit 378004378046)) (nat_lit 378004378046)) (.cons (.ret (.tup (.cons (.loc .kpieces (nat_lit 379012379018)) (.cons (.loc .klines (nat_lit 379020379025)) .nil)) 0 (nat_lit 379011379026)) (nat_lit 379004379026)) .nil))))))
noncomputable def pastN : Kns := [(.kpieces, .local), (.kat, .local), (.kdepth, .local)]
noncomputable def pastB : B := (.cons (.whl (.bop .Or (.cons (.cmp .Eq (.sub (.sub (.loc .kpieces (nat_lit 381010381016)) (.loc .kat (nat_lit 381017381019)) (nat_lit 381010381020)) (.int 0 0 (nat_lit 381021381022)) (nat_lit 381010381023)) (.str [98, 108, 97, 110, 107] 0 (nat_lit 381027381034)) (nat_lit 381010381034)) (.cons (.bop .And (.cons (.cmp .Gt (.loc .kdepth (nat_lit 381039381044)) (.int 0 0 (nat_lit 381047381048)) (nat_lit 381039381048)) (.cons (.cmp .Eq (.sub (.sub (.loc .kpieces (nat_lit 381053381059)) (.loc .kat (nat_lit 381060381062)) (nat_lit 381053381063)) (.int 0 0 (nat_lit 381064381065)) (nat_lit 381053381066)) (.str [108, 105, 110, 101] 0 (nat_lit 381070381076)) (nat_lit 381053381076)) .nil)) (nat_lit 381039381076)) .nil)) (nat_lit 381010381077)) (.cons (.aul .kat .Add (.int 1 0 (nat_lit 382014382015)) (nat_lit 382008382010) (nat_lit 382008382015)) .nil) (nat_lit 381004382015)) (.cons (.ret (.loc .kat (nat_lit 383011383013)) (nat_lit 383004383013)) .nil))
noncomputable def nextN : Kns := [(.kpieces, .local), (.kbegin, .local), (.kdepth, .local), (.klead, .local), (.knote, .local), (.kat, .local), (.kkind, .local), (.kstart, .local), (.kstop, .local), (.kvalue, .local), (.kescaped, .local), (.k_law_past, .globalImplicit)]
noncomputable def nextB : B := (.cons (.asg .kat (.cal .k_law_past (nat_lit 385009385018) (.cons (.loc .kpieces (nat_lit 385019385025)) (.cons (.loc .kbegin (nat_lit 385027385032)) (.cons (.loc .kdepth (nat_lit 385034385039)) .nil))) .nil (nat_lit 385009385040)) (nat_lit 385004385006) (nat_lit 385004385040)) (.cons (.ite (.bop .And (.cons (.loc .klead (nat_lit 386007386011)) (.cons (.cmp .Gt (.loc .kat (nat_lit 386016386018)) (.loc .kbegin (nat_lit 386021386026)) (nat_lit 386016386026)) .nil)) (nat_lit 386007386026)) (.cons (.ret (.tup (.cons (.str [] 0 (nat_lit 387016387018)) (.cons (.tup (.cons (.int 2 0 (nat_lit 387021387022)) (.cons (.str [32] 0 (nat_lit 387024387027)) (.cons (.boo false 0 (nat_lit 387029387034)) (.cons (.non 0 (nat_lit 387036387040)) .nil)))) 0 (nat_lit 387020387041)) (.cons (.loc .kat (nat_lit 387043387045)) (.cons (.loc .kdepth (nat_lit 387047387052)) (.cons (.bin .Add (.sub (.sub (.loc .kpieces (nat_lit 387054387060)) (.loc .kat (nat_lit 387061387063)) (nat_lit 387054387064)) (.int 1 0 (nat_lit 387065387066)) (nat_lit 387054387067)) (.int 1 0 (nat_lit 387070387071)) (nat_lit 387054387071)) .nil))))) 0 (nat_lit 387015387072)) (nat_lit 387008387072)) .nil) .nil (nat_lit 386004387072)) (.cons (.whl (.cmp .In (.sub (.sub (.loc .kpieces (nat_lit 388010388016)) (.loc .kat (nat_lit 388017388019)) (nat_lit 388010388020)) (.int 0 0 (nat_lit 388021388022)) (nat_lit 388010388023)) (.tup (.cons (.str [40] 0 (nat_lit 388028388031)) (.cons (.str [41] 0 (nat_lit 388033388036)) (.cons (.str [99, 108, 111, 115, 101] 0 (nat_lit 388038388045)) (.cons (.str [99, 111, 109, 109, 101, 110, 116] 0 (nat_lit 388047388056)) .nil)))) 0 (nat_lit 388027388057)) (nat_lit 388010388057)) (.cons (.ast (.cons (.loc .kkind (nat_lit 389008389012)) (.cons (.loc .kstart (nat_lit 389014389019)) (.cons (.loc .kstop (nat_lit 389021389025)) (.cons (.loc .kvalue (nat_lit 389027389032)) (.cons (.loc .kescaped (nat_lit 389034389041)) .nil))))) (.sub (.loc .kpieces (nat_lit 389044389050)) (.loc .kat (nat_lit 389051389053)) (nat_lit 389044389054)) 0 (nat_lit 389008389041) (nat_lit 389008389054)) (.cons (.ite (.bop .And (.cons (.cmp .Eq (.loc .kkind (nat_lit 390011390015)) (.str [41] 0 (nat_lit 390019390022)) (nat_lit 390011390022)) (.cons (.cmp .Eq (.loc .kdepth (nat_lit 390027390032)) (.int 0 0 (nat_lit 390036390037)) (nat_lit 390027390037)) .nil)) (nat_lit 390011390037)) (.cons (.ret (.tup (.cons (.str [115, 121, 110, 116, 97, 120] 0 (nat_lit 391020391028)) (.cons (.non 0 (nat_lit 391030391034)) (.cons (.loc .kat (nat_lit 391036391038)) (.cons (.loc .kdepth (nat_lit 391040391045)) (.cons (.loc .kstop (nat_lit 391047391051)) .nil))))) 0 (nat_lit 391019391052)) (nat_lit 391012391052)) .nil) .nil (nat_lit 390008391052)) (.cons (.ite (.cmp .Eq (.loc .kkind (nat_lit 392011392015)) (.str [99, 111, 109, 109, 101, 110, 116] 0 (nat_lit 392019392028)) (nat_lit 392011392028)) (.cons (.ite (.loc .knote (nat_lit 393015393019)) (.cons (.ret (.tup (.cons (.str [] 0 (nat_lit 394024394026)) (.cons (.tup (.cons (.int 5 0 (nat_lit 394029394030)) (.cons (.loc .kvalue (nat_lit 394032394037)) (.cons (.boo false 0 (nat_lit 394039394044)) (.cons (.non 0 (nat_lit 394046394050)) .nil)))) 0 (nat_lit 394028394051)) (.cons (.bin .Add (.loc .kat (nat_lit 394053394055)) (.int 1 0 (nat_lit 394058394059)) (nat_lit 394053394059)) (.cons (.loc .kdepth (nat_lit 394061394066)) (.cons (.bin .Add (.loc .kstop (nat_lit 394068394072)) (.int 1 0 (nat_lit 394075394076)) (nat_lit 394068394076)) .nil))))) 0 (nat_lit 394023394077)) (nat_lit 394016394077)) .nil) .nil (nat_lit 393012394077)) (.cons (.ite (.bop .And (.cons (.cmp .Eq (.loc .kdepth (nat_lit 395015395020)) (.int 0 0 (nat_lit 395024395025)) (nat_lit 395015395025)) (.cons (.cmp .Eq (.sub (.sub (.loc .kpieces (nat_lit 395030395036)) (.bin .Add (.loc .kat (nat_lit 395037395039)) (.int 1 0 (nat_lit 395042395043)) (nat_lit 395037395043)) (nat_lit 395030395044)) (.int 0 0 (nat_lit 395045395046)) (nat_lit 395030395047)) (.str [111, 118, 101, 114] 0 (nat_lit 395051395057)) (nat_lit 395030395057)) .nil)) (nat_lit 395015395057)) (.cons (.ret (.tup (.cons (.str [] 0 (nat_lit 396024396026)) (.cons (.tup (.cons (.int 0 0 (nat_lit 396029396030)) (.cons (.str [] 0 (nat_lit 396032396034)) (.cons (.boo false 0 (nat_lit 396036396041)) (.cons (.loc .kvalue (nat_lit 396043396048)) .nil)))) 0 (nat_lit 396028396049)) (.cons (.bin .Add (.loc .kat (nat_lit 396051396053)) (.int 1 0 (nat_lit 396056396057)) (nat_lit 396051396057)) (.cons (.loc .kdepth (nat_lit 396059396064)) (.cons (.loc .kstop (nat_lit 396066396070)) .nil))))) 0 (nat_lit 396023396071)) (nat_lit 396016396071)) .nil) .nil (nat_lit 395012396071)) (.cons (.ite (.cmp .Eq (.loc .kdepth (nat_lit 397015397020)) (.int 0 0 (nat_lit 397024397025)) (nat_lit 397015397025)) (.cons (.ret (.tup (.cons (.str [] 0 (nat_lit 398024398026)) (.cons (.tup (.cons (.int 1 0 (nat_lit 398029398030)) (.cons (.str [10] 0 (nat_lit 398032398036)) (.cons (.boo false 0 (nat_lit 398038398043)) (.cons (.loc .kvalue (nat_lit 398045398050)) .nil)))) 0 (nat_lit 398028398051)) (.cons (.bin .Add (.loc .kat (nat_lit 398053398055)) (.int 2 0 (nat_lit 398058398059)) (nat_lit 398053398059)) (.cons (.loc .kdepth (nat_lit 398061398066)) (.cons (.bin .Add (.loc .kstop (nat_lit 398068398072)) (.int 1 0 (nat_lit 398075398076)) (nat_lit 398068398076)) .nil))))) 0 (nat_lit 398023398077)) (nat_lit 398016398077)) .nil) .nil (nat_lit 397012398077)) .nil))) .nil (nat_lit 392008398077)) (.cons (.ite (.cmp .Eq (.loc .kkind (nat_lit 399011399015)) (.str [40] 0 (nat_lit 399019399022)) (nat_lit 399011399022)) (.cons (.aul .kdepth .Add (.int 1 0 (nat_lit 400021400022)) (nat_lit 400012400017) (nat_lit 400012400022)) .nil) .nil (nat_lit 399008400022)) (.cons (.ite (.cmp .Eq (.loc .kkind (nat_lit 401011401015)) (.str [41] 0 (nat_lit 401019401022)) (nat_lit 401011401022)) (.cons (.aul .kdepth .Sub (.int 1 0 (nat_lit 402021402022)) (nat_lit 402012402017) (nat_lit 402012402022)) .nil) .nil (nat_lit 401008402022)) (.cons (.asg .kat (.cal .k_law_past (nat_lit 403013403022) (.cons (.loc .kpieces (nat_lit 403023403029)) (.cons (.bin .Add (.loc .kat (nat_lit 403031403033)) (.int 1 0 (nat_lit 403036403037)) (nat_lit 403031403037)) (.cons (.loc .kdepth (nat_lit 403039403044)) .nil))) .nil (nat_lit 403013403045)) (nat_lit 403008403010) (nat_lit 403008403045)) .nil)))))) (nat_lit 388004403045)) (.cons (.ast (.cons (.loc .kkind (nat_lit 404004404008)) (.cons (.loc .kstart (nat_lit 404010404015)) (.cons (.loc .kstop (nat_lit 404017404021)) (.cons (.loc .kvalue (nat_lit 404023404028)) (.cons (.loc .kescaped (nat_lit 404030404037)) .nil))))) (.sub (.loc .kpieces (nat_lit 404040404046)) (.loc .kat (nat_lit 404047404049)) (nat_lit 404040404050)) 0 (nat_lit 404004404037) (nat_lit 404004404050)) (.cons (.ite (.cmp .Eq (.loc .kkind (nat_lit 405007405011)) (.str [101, 110, 100] 0 (nat_lit 405015405020)) (nat_lit 405007405020)) (.cons (.ret (.tup (.cons (.str [101, 110, 100] 0 (nat_lit 406016406021)) (.cons (.non 0 (nat_lit 406023406027)) (.cons (.loc .kat (nat_lit 406029406031)) (.cons (.loc .kdepth (nat_lit 406033406038)) (.cons (.loc .kstop (nat_lit 406040406044)) .nil))))) 0 (nat_lit 406015406045)) (nat_lit 406008406045)) .nil) .nil (nat_lit 405004406045)) (.cons (.ite (.bop .Or (.cons (.cmp .Eq (.loc .kkind (nat_lit 407007407011)) (.str [116, 111, 114, 110] 0 (nat_lit 407015407021)) (nat_lit 407007407021)) (.cons (.bop .And (.cons (.cmp .Eq (.loc .kkind (nat_lit 407026407030)) (.str [111, 118, 101, 114] 0 (nat_lit 407034407040)) (nat_lit 407026407040)) (.cons (.cmp .Gt (.loc .kdepth (nat_lit 407045407050)) (.int 0 0 (nat_lit 407053407054)) (nat_lit 407045407054)) .nil)) (nat_lit 407026407054)) .nil)) (nat_lit 407007407055)) (.cons (.ret (.tup (.cons (.str [115, 121, 110, 116, 97, 120] 0 (nat_lit 408016408024)) (.cons (.non 0 (nat_lit 408026408030)) (.cons (.loc .kat (nat_lit 408032408034)) (.cons (.loc .kdepth (nat_lit 408036408041)) (.cons (.loc .kstop (nat_lit 408043408047)) .nil))))) 0 (nat_lit 408015408048)) (nat_lit 408008408048)) .nil) .nil (nat_lit 407004408048)) (.cons (.ite (.cmp .Eq (.loc .kkind (nat_lit 409007409011)) (.str [111, 118, 101, 114] 0 (nat_lit 409015409021)) (nat_lit 409007409021)) (.cons (.ret (.tup (.cons (.str [] 0 (nat_lit 410016410018)) (.cons (.tup (.cons (.int 0 0 (nat_lit 410021410022)) (.cons (.str [] 0 (nat_lit 410024410026)) (.cons (.boo false 0 (nat_lit 410028410033)) (.cons (.non 0 (nat_lit 410035410039)) .nil)))) 0 (nat_lit 410020410040)) (.cons (.loc .kat (nat_lit 410042410044)) (.cons (.loc .kdepth (nat_lit 410046410051)) (.cons (.loc .kstop (nat_lit 410053410057)) .nil))))) 0 (nat_lit 410015410058)) (nat_lit 410008410058)) .nil) .nil (nat_lit 409004410058)) (.cons (.ite (.cmp .Eq (.loc .kkind (nat_lit 411007411011)) (.str [108, 105, 110, 101] 0 (nat_lit 411015411021)) (nat_lit 411007411021)) (.cons (.ret (.tup (.cons (.str [] 0 (nat_lit 412016412018)) (.cons (.tup (.cons (.int 1 0 (nat_lit 412021412022)) (.cons (.str [10] 0 (nat_lit 412024412028)) (.cons (.boo false 0 (nat_lit 412030412035)) (.cons (.non 0 (nat_lit 412037412041)) .nil)))) 0 (nat_lit 412020412042)) (.cons (.bin .Add (.loc .kat (nat_lit 412044412046)) (.int 1 0 (nat_lit 412049412050)) (nat_lit 412044412050)) (.cons (.loc .kdepth (nat_lit 412052412057)) (.cons (.bin .Add (.loc .kstart (nat_lit 412059412064)) (.int 1 0 (nat_lit 412067412068)) (nat_lit 412059412068)) .nil))))) 0 (nat_lit 412015412069)) (nat_lit 412008412069)) .nil) .nil (nat_lit 411004412069)) (.cons (.ite (.cmp .Eq (.loc .kkind (nat_lit 413007413011)) (.str [119, 111, 114, 100] 0 (nat_lit 413015413021)) (nat_lit 413007413021)) (.cons (.ret (.tup (.cons (.str [] 0 (nat_lit 414016414018)) (.cons (.tup (.cons (.int 3 0 (nat_lit 414021414022)) (.cons (.loc .kvalue (nat_lit 414024414029)) (.cons (.loc .kescaped (nat_lit 414031414038)) (.cons (.non 0 (nat_lit 414040414044)) .nil)))) 0 (nat_lit 414020414045)) (.cons (.bin .Add (.loc .kat (nat_lit 414047414049)) (.int 1 0 (nat_lit 414052414053)) (nat_lit 414047414053)) (.cons (.loc .kdepth (nat_lit 414055414060)) (.cons (.bin .Add (.loc .kstop (nat_lit 414062414066)) (.int 1 0 (nat_lit 414069414070)) (nat_lit 414062414070)) .nil))))) 0 (nat_lit 414015414071)) (nat_lit 414008414071)) .nil) .nil (nat_lit 413004414071)) (.cons (.ret (.tup (.cons (.str [] 0 (nat_lit 415012415014)) (.cons (.tup (.cons (.int 4 0 (nat_lit 415017415018)) (.cons (.loc .kvalue (nat_lit 415020415025)) (.cons (.loc .kescaped (nat_lit 415027415034)) (.cons (.non 0 (nat_lit 415036415040)) .nil)))) 0 (nat_lit 415016415041)) (.cons (.bin .Add (.loc .kat (nat_lit 415043415045)) (.int 1 0 (nat_lit 415048415049)) (nat_lit 415043415049)) (.cons (.loc .kdepth (nat_lit 415051415056)) (.cons (.bin .Add (.loc .kstop (nat_lit 415058415062)) (.int 1 0 (nat_lit 415065415066)) (nat_lit 415058415066)) .nil))))) 0 (nat_lit 415011415067)) (nat_lit 415004415067)) .nil))))))))))
noncomputable def fullN : Kns := [(.kreader, .local), (.ktoken, .local), (.kUngetBufferFull, .globalImplicit)]
noncomputable def fullB : B := (.cons (.try (.cons (.exp (.met (.loc .kreader (nat_lit 418008418014)) .kunget (nat_lit 418008418020) (.cons (.loc .ktoken (nat_lit 418021418026)) .nil) .nil (nat_lit 418008418027)) (nat_lit 418008418027)) .nil) (.cons (.hnd .kUngetBufferFull (nat_lit 419011419026) (.cons (.ret (.boo true 0 (nat_lit 420015420019)) (nat_lit 420008420019)) .nil) (nat_lit 419004420019)) .nil) (nat_lit 417004420019)) (.cons (.ret (.boo false 0 (nat_lit 421011421016)) (nat_lit 421004421016)) .nil))
noncomputable def toldN : Kns := [(.kreader, .local), (.klead, .local), (.knote, .local), (.kUnexpectedEnd, .globalImplicit), (.kUngetBufferFull, .globalImplicit), (.kDNSException, .globalImplicit)]
noncomputable def toldB : B := (.cons (.try (.cons (.ret (.tup (.cons (.str [] 0 (nat_lit 424016424018)) (.cons (.met (.loc .kreader (nat_lit 424020424026)) .kget (nat_lit 424020424030) (.cons (.loc .klead (nat_lit 424031424035)) (.cons (.loc .knote (nat_lit 424037424041)) .nil)) .nil (nat_lit 424020424042)) .nil)) 0 (nat_lit 424015424043)) (nat_lit 424008424043)) .nil) (.cons (.hnd .kUnexpectedEnd (nat_lit 425011425024) (.cons (.ret (.tup (.cons (.str [101, 110, 100] 0 (nat_lit 426016426021)) (.cons (.non 0 (nat_lit 426023426027)) .nil)) 0 (nat_lit 426015426028)) (nat_lit 426008426028)) .nil) (nat_lit 425004426028)) (.cons (.hnd .kUngetBufferFull (nat_lit 427011427026) (.cons (.ret (.tup (.cons (.str [102, 117, 108, 108] 0 (nat_lit 428016428022)) (.cons (.non 0 (nat_lit 428024428028)) .nil)) 0 (nat_lit 428015428029)) (nat_lit 428008428029)) .nil) (nat_lit 427004428029)) (.cons (.hnd .kDNSException (nat_lit 429011429023) (.cons (.ret (.tup (.cons (.str [115, 121, 110, 116, 97, 120] 0 (nat_lit 430016430024)) (.cons (.non 0 (nat_lit 430026430030)) .nil)) 0 (nat_lit 430015430031)) (nat_lit 430008430031)) .nil) (nat_lit 429004430031)) .nil))) (nat_lit 423004430031)) .nil)
noncomputable def lawN : Kns := [(.kscript, .local), (.krow, .local), (.ktext, .local), (.klabel, .local), (.ksource, .local), (.kreader, .local), (.kpieces, .local), (.klines, .local), (.kat, .local), (.kdepth, .local), (.kread, .cell), (.klast, .local), (.ksaid, .local), (.knumber, .local), (.klead, .local), (.knote, .local), (.kdeed, .local), (.kback, .local), (.kheld, .local), (.kverdict, .local), (.kword, .local), (.k_law_row, .globalImplicit), (.k_law_text, .globalImplicit), (.kLAW_LABELS, .globalImplicit), (.kTokenizer, .globalImplicit), (.k_law_pieces, .globalImplicit), (.kToken, .globalImplicit), (.k_law_full, .globalImplicit), (.k_law_next, .globalImplicit), (.k_law_told, .globalImplicit), (.klen, .globalImplicit)]
noncomputable def lawB : B := (.cons (.asg .krow (.cal .k_law_row (nat_lit 432010432018) (.cons (.loc .kscript (nat_lit 432019432025)) .nil) .nil (nat_lit 432010432026)) (nat_lit 432004432007) (nat_lit 432004432026)) (.cons (.asg .ktext (.cal .k_law_text (nat_lit 433011433020) (.cons (.sli (.loc .krow (nat_lit 433021433024)) (.int 1 0 (nat_lit 433025433026)) (.bin .Sub (.int 29 0 (nat_lit 433027433029)) (.bin .Mod (.sub (.loc .krow (nat_lit 433032433035)) (.int 0 0 (nat_lit 433036433037)) (nat_lit 433032433038)) (.int 29 0 (nat_lit 433041433043)) (nat_lit 433032433043)) (nat_lit 433027433043)) (nat_lit 433025433043) (nat_lit 433021433044)) .nil) .nil (nat_lit 433011433045)) (nat_lit 433004433008) (nat_lit 433004433045)) (.cons (.asg .klabel (.sub (.glo .kLAW_LABELS (nat_lit 434012434022)) (.bin .Mod (.bin .FloorDiv (.sub (.loc .krow (nat_lit 434023434026)) (.int 0 0 (nat_lit 434027434028)) (nat_lit 434023434029)) (.int 29 0 (nat_lit 434033434035)) (nat_lit 434023434035)) (.int 3 0 (nat_lit 434038434039)) (nat_lit 434023434039)) (nat_lit 434012434040)) (nat_lit 434004434009) (nat_lit 434004434040)) (.cons (.asg .ksource (.loc .ktext (nat_lit 435013435017)) (nat_lit 435004435010) (nat_lit 435004435017)) (.cons (.ite (.cmp .Eq (.bin .Mod (.bin .FloorDiv (.sub (.loc .krow (nat_lit 436007436010)) (.int 0 0 (nat_lit 436011436012)) (nat_lit 436007436013)) (.int 87 0 (nat_lit 436017436019)) (nat_lit 436007436019)) (.int 2 0 (nat_lit 436022436023)) (nat_lit 436007436023)) (.int 1 0 (nat_lit 436027436028)) (nat_lit 436007436028)) (.cons (.asg .ksource (.met (.loc .ktext (nat_lit 437017437021)) .kencode (nat_lit 437017437028) .nil .nil (nat_lit 437017437030)) (nat_lit 437008437014) (nat_lit 437008437030)) .nil) .nil (nat_lit 436004437030)) (.cons (.ite (.cmp .Eq (.loc .klabel (nat_lit 438007438012)) (.str [60, 115, 116, 114, 105, 110, 103, 62] 0 (nat_lit 438016438026)) (nat_lit 438007438026)) (.cons (.asg .kreader (.cal .kTokenizer (nat_lit 439017439026) (.cons (.loc .ksource (nat_lit 439027439033)) .nil) .nil (nat_lit 439017439034)) (nat_lit 439008439014) (nat_lit 439008439034)) .nil) (.cons (.asg .kreader (.cal .kTokenizer (nat_lit 441017441026) (.cons (.loc .ksource (nat_lit 441027441033)) (.cons (.loc .klabel (nat_lit 441035441040)) .nil)) .nil (nat_lit 441017441041)) (nat_lit 441008441014) (nat_lit 441008441041)) .nil) (nat_lit 438004441041)) (.cons (.ite (.cmp .NotEq (.met (.loc .kreader (nat_lit 442007442013)) .kwhere (nat_lit 442007442019) .nil .nil (nat_lit 442007442021)) (.tup (.cons (.loc .klabel (nat_lit 442026442031)) (.cons (.int 1 0 (nat_lit 442033442034)) .nil)) 0 (nat_lit 442025442035)) (nat_lit 442007442035)) (.cons (.ret (.boo false 0 (nat_lit 443015443020)) (nat_lit 443008443020)) .nil) .nil (nat_lit 442004443020)) (.cons (.ast (.cons (.loc .kpieces (nat_lit 444004444010)) (.cons (.loc .klines (nat_lit 444012444017)) .nil)) (.cal .k_law_pieces (nat_lit 444020444031) (.cons (.loc .ktext (nat_lit 444032444036)) .nil) .nil (nat_lit 444020444037)) 0 (nat_lit 444004444017) (nat_lit 444004444037)) (.cons (.asg .kat (.int 0 0 (nat_lit 445009445010)) (nat_lit 445004445006) (nat_lit 445004445010)) (.cons (.asg .kdepth (.int 0 0 (nat_lit 446012446013)) (nat_lit 446004446009) (nat_lit 446004446013)) (.cons (.asc .kread (.int 0 0 (nat_lit 447011447012)) (nat_lit 447004447008) (nat_lit 447004447012)) (.cons (.asg .klast (.non 0 (nat_lit 448011448015)) (nat_lit 448004448008) (nat_lit 448004448015)) (.cons (.asg .ksaid (.non 0 (nat_lit 449011449015)) (nat_lit 449004449008) (nat_lit 449004449015)) (.cons (.for .knumber (.sli (.loc .krow (nat_lit 450018450021)) (.int 29 0 (nat_lit 450022450024)) (.int 49 0 (nat_lit 450025450027)) (nat_lit 450022450027) (nat_lit 450018450028)) (.cons (.asg .klead (.cmp .Eq (.bin .Mod (.loc .knumber (nat_lit 451015451021)) (.int 2 0 (nat_lit 451024451025)) (nat_lit 451015451025)) (.int 1 0 (nat_lit 451029451030)) (nat_lit 451015451030)) (nat_lit 451008451012) (nat_lit 451008451030)) (.cons (.asg .knote (.cmp .Eq (.bin .Mod (.bin .FloorDiv (.loc .knumber (nat_lit 452015452021)) (.int 2 0 (nat_lit 452025452026)) (nat_lit 452015452026)) (.int 2 0 (nat_lit 452029452030)) (nat_lit 452015452030)) (.int 1 0 (nat_lit 452034452035)) (nat_lit 452015452035)) (nat_lit 452008452012) (nat_lit 452008452035)) (.cons (.asg .kdeed (.bin .Mod (.bin .FloorDiv (.loc .knumber (nat_lit 453015453021)) (.int 4 0 (nat_lit 453025453026)) (nat_lit 453015453026)) (.int 6 0 (nat_lit 453029453030)) (nat_lit 453015453030)) (nat_lit 453008453012) (nat_lit 453008453030)) (.cons (.asg .kback (.non 0 (nat_lit 454015454019)) (nat_lit 454008454012) (nat_lit 454008454019)) (.cons (.asg .kheld (.non 0 (nat_lit 455015455019)) (nat_lit 455008455012) (nat_lit 455008455019)) (.cons (.ite (.bop .Or (.cons (.cmp .Eq (.loc .kdeed (nat_lit 456011456015)) (.int 1 0 (nat_lit 456019456020)) (nat_lit 456011456020)) (.cons (.cmp .Eq (.loc .kdeed (nat_lit 456024456028)) (.int 2 0 (nat_lit 456032456033)) (nat_lit 456024456033)) .nil)) (nat_lit 456011456033)) (.cons (.asg .kback (.loc .klast (nat_lit 457019457023)) (nat_lit 457012457016) (nat_lit 457012457023)) (.cons (.asg .kheld (.loc .ksaid (nat_lit 458019458023)) (nat_lit 458012458016) (nat_lit 458012458023)) .nil)) .nil (nat_lit 456008458023)) (.cons (.ite (.bop .Or (.cons (.cmp .Eq (.loc .kdeed (nat_lit 459011459015)) (.int 3 0 (nat_lit 459019459020)) (nat_lit 459011459020)) (.cons (.cmp .Eq (.loc .kdeed (nat_lit 459024459028)) (.int 4 0 (nat_lit 459032459033)) (nat_lit 459024459033)) .nil)) (nat_lit 459011459033)) (.cons (.asg .kheld (.tup (.cons (.bin .Mod (.bin .FloorDiv (.loc .knumber (nat_lit 460020460026)) (.int 24 0 (nat_lit 460030460032)) (nat_lit 460020460032)) (.int 7 0 (nat_lit 460035460036)) (nat_lit 460020460036)) (.cons (.str [111, 119, 110] 0 (nat_lit 460038460043)) (.cons (.boo true 0 (nat_lit 460045460049)) (.cons (.str [109, 105, 110, 101] 0 (nat_lit 460051460057)) .nil)))) 0 (nat_lit 460019460058)) (nat_lit 460012460016) (nat_lit 460012460058)) (.cons (.asg .kback (.cal .kToken (nat_lit 461019461024) (.cons (.sub (.loc .kheld (nat_lit 461025461029)) (.int 0 0 (nat_lit 461030461031)) (nat_lit 461025461032)) (.cons (.sub (.loc .kheld (nat_lit 461034461038)) (.int 1 0 (nat_lit 461039461040)) (nat_lit 461034461041)) (.cons (.sub (.loc .kheld (nat_lit 461043461047)) (.int 2 0 (nat_lit 461048461049)) (nat_lit 461043461050)) (.cons (.sub (.loc .kheld (nat_lit 461052461056)) (.int 3 0 (nat_lit 461057461058)) (nat_lit 461052461059)) .nil)))) .nil (nat_lit 461019461060)) (nat_lit 461012461016) (nat_lit 461012461060)) .nil)) .nil (nat_lit 459008461060)) (.cons (.ite (.cmp .IsNot (.loc .kback (nat_lit 462011462015)) (.non 0 (nat_lit 462023462027)) (nat_lit 462011462027)) (.cons (.exp (.met (.loc .kreader (nat_lit 463012463018)) .kunget (nat_lit 463012463024) (.cons (.loc .kback (nat_lit 463025463029)) .nil) .nil (nat_lit 463012463030)) (nat_lit 463012463030)) (.cons (.ite (.bop .And (.cons (.cmp .Eq (.bin .Mod (.loc .kdeed (nat_lit 464015464019)) (.int 2 0 (nat_lit 464022464023)) (nat_lit 464015464023)) (.int 0 0 (nat_lit 464027464028)) (nat_lit 464015464028)) (.cons (.not (.cal .k_law_full (nat_lit 464038464047) (.cons (.loc .kreader (nat_lit 464048464054)) (.cons (.loc .kback (nat_lit 464056464060)) .nil)) .nil (nat_lit 464038464061)) (nat_lit 464034464061)) .nil)) (nat_lit 464015464062)) (.cons (.ret (.boo false 0 (nat_lit 465023465028)) (nat_lit 465016465028)) .nil) .nil (nat_lit 464012465028)) .nil)) .nil (nat_lit 462008465028)) (.cons (.ite (.bop .And (.cons (.cmp .IsNot (.loc .kheld (nat_lit 466011466015)) (.non 0 (nat_lit 466023466027)) (nat_lit 466011466027)) (.cons (.bop .Or (.cons (.cmp .NotEq (.sub (.loc .kheld (nat_lit 466033466037)) (.int 0 0 (nat_lit 466038466039)) (nat_lit 466033466040)) (.int 2 0 (nat_lit 466044466045)) (nat_lit 466033466045)) (.cons (.loc .klead (nat_lit 466049466053)) .nil)) (nat_lit 466033466053)) (.cons (.bop .Or (.cons (.cmp .NotEq (.sub (.loc .kheld (nat_lit 466060466064)) (.int 0 0 (nat_lit 466065466066)) (nat_lit 466060466067)) (.int 5 0 (nat_lit 466071466072)) (nat_lit 466060466072)) (.cons (.loc .knote (nat_lit 466076466080)) .nil)) (nat_lit 466060466080)) .nil))) (nat_lit 466011466081)) (.cons (.asg .kverdict (.str [] 0 (nat_lit 467022467024)) (nat_lit 467012467019) (nat_lit 467012467024)) (.cons (.asg .ksaid (.loc .kheld (nat_lit 468019468023)) (nat_lit 468012468016) (nat_lit 468012468023)) .nil)) (.cons (.ast (.cons (.loc .kverdict (nat_lit 470012470019)) (.cons (.loc .ksaid (nat_lit 470021470025)) (.cons (.loc .kat (nat_lit 470027470029)) (.cons (.loc .kdepth (nat_lit 470031470036)) (.cons (.cel .kread (nat_lit 470038470042)) .nil))))) (.cal .k_law_next (nat_lit 470045470054) (.cons (.loc .kpieces (nat_lit 470055470061)) (.cons (.loc .kat (nat_lit 470063470065)) (.cons (.loc .kdepth (nat_lit 470067470072)) (.cons (.loc .klead (nat_lit 470074470078)) (.cons (.loc .knote (nat_lit 470080470084)) .nil))))) .nil (nat_lit 470045470085)) 0 (nat_lit 470012470042) (nat_lit 470012470085)) .nil) (nat_lit 466008470085)) (.cons (.ast (.cons (.loc .kword (nat_lit 471008471012)) (.cons (.loc .klast (nat_lit 471014471018)) .nil)) (.cal .k_law_told (nat_lit 471021471030) (.cons (.loc .kreader (nat_lit 471031471037)) (.cons (.loc .klead (nat_lit 471039471043)) (.cons (.loc .knote (nat_lit 471045471049)) .nil))) .nil (nat_lit 471021471050)) 0 (nat_lit 471008471018) (nat_lit 471008471050)) (.cons (.ite (.cmp .NotEq (.loc .kword (nat_lit 472011472015)) (.loc .kverdict (nat_lit 472019472026)) (nat_lit 472011472026)) (.cons (.ret (.boo false 0 (nat_lit 473019473024)) (nat_lit 473012473024)) .nil) .nil (nat_lit 472008473024)) (.cons (.ite (.cmp .NotEq (.met (.loc .kreader (nat_lit 474011474017)) .kwhere (nat_lit 474011474023) .nil .nil (nat_lit 474011474025)) (.tup (.cons (.loc .klabel (nat_lit 474030474035)) (.cons (.bin .Add (.int 1 0 (nat_lit 474037474038)) (.cal .klen (nat_lit 474041474044) (.cons (.cmh (nat_lit 474045474081) (nat_lit 474054474057) (nat_lit 474046474049) (nat_lit 474061474066) (nat_lit 474070474073) (nat_lit 474076474080) (nat_lit 474070474080)) .nil) .nil (nat_lit 474041474082)) (nat_lit 474037474082)) .nil)) 0 (nat_lit 474029474083)) (nat_lit 474011474083)) (.cons (.ret (.boo false 0 (nat_lit 475019475024)) (nat_lit 475012475024)) .nil) .nil (nat_lit 474008475024)) (.cons (.ite (.cmp .NotEq (.loc .kverdict (nat_lit 476011476018)) (.str [] 0 (nat_lit 476022476024)) (nat_lit 476011476024)) (.cons (.ret (.boo true 0 (nat_lit 477019477023)) (nat_lit 477012477023)) .nil) .nil (nat_lit 476008477023)) (.cons (.ite (.cmp .NotEq (.tup (.cons (.att (.loc .klast (nat_lit 478012478016)) .kttype (nat_lit 478012478022)) (.cons (.att (.loc .klast (nat_lit 478024478028)) .kvalue (nat_lit 478024478034)) (.cons (.att (.loc .klast (nat_lit 478036478040)) .khas_escape (nat_lit 478036478051)) (.cons (.att (.loc .klast (nat_lit 478053478057)) .kcomment (nat_lit 478053478065)) .nil)))) 0 (nat_lit 478011478066)) (.loc .ksaid (nat_lit 478070478074)) (nat_lit 478011478074)) (.cons (.ret (.boo false 0 (nat_lit 479019479024)) (nat_lit 479012479024)) .nil) .nil (nat_lit 478008479024)) .nil)))))))))))))) (nat_lit 450008450014) (nat_lit 450004479024)) (.cons (.ret (.boo true 0 (nat_lit 480011480015)) (nat_lit 480004480015)) .nil)))))))))))))))
end Mine

end
section
open PySem PySem.W PySem.Calls PyProof.Rows
set_option maxRecDepth 100000
set_option linter.all false
namespace Mine
variable {c : Cx} {σ : St}

theorem Cx.Calls.le {k m : Nat} (h : c.Calls k) (hm : m ≤ k) : c.Calls m := ⟨h.handled, by have := h.depth; omega, by have := h.units; omega⟩
noncomputable def uchV : Option (List Nat) → V
  | none => .none
  | some c => .str c
noncomputable def tokFs (f : Addr) (t : T) (u : V) (nF : List Nat) : List (N × V) :=
  [(.kfile, .ref f), (.kungotten_char, uchV t.uch), (.kungotten_token, u), (.kmultiline, .int t.ml), (.kquoting, .bool t.q), (.keof, .bool t.eof), (.kafter_cr, .bool t.cr),
   (.kdelimiters, .tup ((dels t.q).map .str)), (.kline_number, .int t.line), (.kfilename, .str nF)]
noncomputable def txtFs (x : List Nat) (n : Nat) : List (N × V) := [(.ktext, .str x), (.kat, .int n)]
structure TK (H : Hp) (a f : Addr) (x nF : List Nat) (u : V) (t : T) : Prop where
  tok : H a = some (.inst 451 (tokFs f t u nF))
  txt : H f = some (.inst 84 (txtFs x t.at_))
theorem cls_ne {H : Hp} {a b C D : Addr} {fs gs : List (N × V)} (h : H a = some (.inst C fs)) (h' : H b = some (.inst D gs)) (n : C ≠ D) : a ≠ b := fun e => by
  subst e
  rw [h] at h'
  injection h' with h'
  injection h' with e1
  exact n e1
theorem new_ne {H : Hp} {a b : Addr} {o : O} (h : H a = none) (h' : H b = some o) : b ≠ a := fun e => by
  subst e
  rw [h] at h'
  cases h'
theorem TK.ne {H : Hp} {a f : Addr} {x nF : List Nat} {u : V} {t : T} (h : TK H a f x nF u t) : a ≠ f := cls_ne h.tok h.txt (by decide)
/-- all but two objects are kept -/
noncomputable def Kp (a f : Addr) (H H' : Hp) : Prop := ∀ b o, b ≠ a → b ≠ f → H b = some o → H' b = some o
theorem Kp.refl {a f : Addr} (H : Hp) : Kp a f H H := fun _ _ _ _ e => e
theorem Kp.trans {a f : Addr} {H H' H'' : Hp} (h : Kp a f H H') (h' : Kp a f H' H'') : Kp a f H H'' := fun b o n m e => h' b o n m (h b o n m e)
theorem Kp.a {a f : Addr} {H H' : Hp} {o : O} (h : Kp a f H H') : Kp a f H (H'.upd a o) := fun b o n m e => (upd_ne n).trans (h b o n m e)
theorem Kp.f {a f : Addr} {H H' : Hp} {o : O} (h : Kp a f H H') : Kp a f H (H'.upd f o) := fun b o n m e => (upd_ne m).trans (h b o n m e)
/-- everything is kept -/
noncomputable def Kpa (H H' : Hp) : Prop := ∀ b o, H b = some o → H' b = some o
theorem Kpa.refl (H : Hp) : Kpa H H := fun _ _ e => e
theorem Kpa.trans {H H' H'' : Hp} (h : Kpa H H') (h' : Kpa H' H'') : Kpa H H'' := fun b o e => h' b o (h b o e)
theorem Kpa.new {d : Addr} {H H' : Hp} {o : O} (h : Kpa H H') (n : H' d = none) : Kpa H (H'.upd d o) := fun b o e => (upd_ne (new_ne n (h b o e))).trans (h b o e)
theorem Kpa.upd {d : Addr} {H H' : Hp} {o : O} (h : Kpa H H') (n : H d = none) : Kpa H (H'.upd d o) := fun b o e => (upd_ne (new_ne n e)).trans (h b o e)
theorem Kpa.del {d : Addr} {H H' : Hp} (h : Kpa H H') (n : H d = none) : Kpa H (H'.del d) := fun b o e => (if_neg (new_ne n e)).trans (h b o e)
theorem Kpa.none {H H' : Hp} {a : Addr} (h : Kpa H H') (n : H' a = none) : H a = none := by
  cases q : H a with
  | none => rfl
  | some o => rw [h a o q] at n; cases n
theorem Kpa.kp {a f : Addr} {H H' : Hp} (h : Kpa H H') : Kp a f H H' := fun b o _ _ e => h b o e
theorem sliceL_one (x : List Nat) (n : Nat) : sliceL x (n : Int) ((n : Int) + 1) = one x n := by
  unfold sliceL one
  have : ((n : Int) + 1).toNat = n + 1 := by omega
  rw [this]; simp
theorem Binds.gen {K₀ : Frag} {fd : FuncData} {ns : List N} {vs vs' kv : List V} {kn : List Str} (hl : ns.length = vs'.length)
    (hb : ∀ s us ku, K₀.In s.heap → VRs s.heap vs us → VRs s.heap kv ku → ∃ us', VRs s.heap vs' us' ∧ BindsTo s fd ⟨us, kn.zip ku⟩ ((ns.map nm).zip us'))
    (hk : (ns.all fun n => fd.scope.names.lookup (nm n) == some .local) = true) (hd : ns.Nodup) : Binds K₀ fd vs kn kv (ns.zip vs') := fun s us ku hK hus hku => by
  obtain ⟨us', h1, h2⟩ := hb s us ku hK hus hku
  have hlen : us'.length = ns.length := by rw [h1.length, hl]
  have hnd : (((ns.map nm).zip us').map (·.1)).Nodup := by
    rw [List.map_fst_zip (by simp [hlen])]
    exact List.pairwise_map.mpr (hd.imp fun h e => h (nm_inj e))
  refine ⟨_, h2, fun x hx => ?_, ?_⟩
  · obtain ⟨q1, q2⟩ := List.of_mem_zip hx
    obtain ⟨n, hn, e⟩ := List.mem_map.mp q1
    rw [← e]
    exact beq_iff_eq.mp (List.all_eq_true.mp hk n hn)
  · have := locR_zip hl h1
    intro n v e
    obtain ⟨u, hu, hr⟩ := this n v e
    exact ⟨u, (lookup_rev hnd _).trans hu, hr⟩
/-- a def of the program, as its text and its names -/
structure Fn (P : Params) (f : Addr) (fd : FuncData) (ns : List N) (ks : Kns) (b : B) : Prop where
  D : DefAt (KK P) f fd b.un
  e : fd.scope.names = kinds ks
  ok : b.ok ks = true
  lo : (ns.all fun n => isL ks n) = true
  nd : ns.Nodup
/-- how the arguments come in -/
noncomputable def Comes (P : Params) (fd : FuncData) (ns : List N) (vs : List V) (kn : List Str) (kv vs' : List V) : Prop :=
  ns.length = vs'.length ∧ ∀ s us ku, (KK P).In s.heap → VRs s.heap vs us → VRs s.heap kv ku → ∃ us', VRs s.heap vs' us' ∧ BindsTo s fd ⟨us, kn.zip ku⟩ ((ns.map nm).zip us')
section
variable {P : Params} {f : Addr} {fd : FuncData} {ns : List N} {ks : Kns} {b : B} {vs vs' kv : List V} {kn : List Str}
theorem Fn.binds (F : Fn P f fd ns ks b) (h : Comes P fd ns vs kn kv vs') : Binds (KK P) fd vs kn kv (ns.zip vs') := by
  refine Binds.gen h.1 h.2 ?_ F.nd
  rw [List.all_eq_true]
  intro n hn
  have := (knl_kinds ks).look (beq_iff_eq.mp (List.all_eq_true.mp F.lo n hn))
  rw [F.e, this]; rfl
theorem Fn.call (F : Fn P f fd ns ks b) {k : Nat} (K : c.Ok) (hK : c.K = KK P) (hc : c.Calls (k + 1)) {Q : V → St → Prop} (hv : Comes P fd ns vs kn kv vs')
    (h : ∀ c', Rdy c' ks → c'.Calls k → c'.K = KK P → c'.X = c.X → b.v c' (retK σ.loc Q) ⟨ns.zip vs', σ.H⟩) : CallV c (.ref f) vs kn kv σ Q :=
  CallV.defK hK K hc F.D (F.binds hv) fun c' K' hc' hK' _ hX' hs' => enterB K' hc' hs' F.e rfl F.ok fun r => h c' r hc' hK' hX'
theorem Fn.callB (F : Fn P f fd ns ks b) {k : Nat} (K : c.Ok) (hK : c.K = KK P) (hc : c.Calls (k + 1)) {Q : V → St → Prop} (hv : Comes P fd ns vs kn kv vs')
    (h : ∀ c', Rdy c' ks → c'.Calls k → c'.K = KK P → c'.base = c.base → b.v c' (retK σ.loc Q) ⟨ns.zip vs', σ.H⟩) : CallV c (.ref f) vs kn kv σ Q :=
  CallV.defK hK K hc F.D (F.binds hv) fun c' K' hc' hK' hB' hX' hs' => enterB K' hc' hs' F.e rfl F.ok fun r => h c' r hc' hK' hB'
theorem Fn.make (F : Fn P f fd ns ks b) {C : Addr} (hI : INITS.contains (C, f) = true) {k : Nat} (K : c.Ok) (hK : c.K = KK P) (hc : c.Calls (k + 1)) {Q : V → St → Prop} {vs' : Addr → List V} (hv : ∀ a, Comes P fd ns (.ref a :: vs) kn kv (vs' a))
    (h : ∀ a, σ.H a = none → ∀ c', Rdy c' ks → c'.Calls k → c'.K = KK P → c'.X = c.X → b.v c' (retK σ.loc fun v σ' => v = .none ∧ Q (.ref a) σ') ⟨ns.zip (vs' a), σ.H.upd a (.inst C [])⟩) : CallV c (.ref C) vs kn kv σ Q :=
  CallV.clsK hK K hc hI F.D (fun a => F.binds (hv a)) fun a ha c' K' hc' hK' _ hX' hs' => enterB K' hc' hs' F.e rfl F.ok fun r => h a ha c' r hc' hK' hX'
/-- all arguments are given in their order -/
theorem Comes.all (hl : ns.length = vs.length) (h : ∀ s us, (KK P).In s.heap → us.length = ns.length → BindsTo s fd ⟨us, []⟩ ((ns.map nm).zip us)) : Comes P fd ns vs [] [] vs :=
  ⟨hl, fun s us ku hK hus hku => by cases hku; exact ⟨us, hus, h s us hK (hus.length.trans hl.symm)⟩⟩
end
end Mine

end
section
open PySem PySem.W PySem.Calls PyProof.Rows
set_option maxRecDepth 100000
set_option linter.all false
set_option bootstrap.genMatcherCode false
namespace Mine
variable {c : Cx} {σ : St}
/-! the defs, as they lie in the program -/
section
variable (P : Params)
theorem text0F : Fn P 74 fd74 [.kself, .ktext] text0N text0B := ⟨⟨⟨_, _, _, rfl⟩, by kernel_rfl, by kernel_rfl, rfl, rfl, by kernel_rfl, rfl, rfl, rfl⟩, by kernel_rfl, by decide +kernel, by decide +kernel, by decide⟩
theorem readF : Fn P 81 fd81 [.kself, .kmany] readN readB := ⟨⟨⟨_, _, _, rfl⟩, by kernel_rfl, by kernel_rfl, rfl, rfl, by kernel_rfl, rfl, rfl, rfl⟩, by kernel_rfl, by decide +kernel, by decide +kernel, by decide⟩
theorem token0F : Fn P 115 fd115 [.kself, .kttype, .kvalue, .khas_escape, .kcomment] token0N token0B := ⟨⟨⟨_, _, _, rfl⟩, by kernel_rfl, by kernel_rfl, rfl, rfl, by kernel_rfl, rfl, rfl, rfl⟩, by kernel_rfl, by decide +kernel, by decide +kernel, by decide⟩
theorem isWsF : Fn P 136 fd136 [.kself] isWsN isWsB := ⟨⟨⟨_, _, _, rfl⟩, by kernel_rfl, by kernel_rfl, rfl, rfl, by kernel_rfl, rfl, rfl, rfl⟩, by kernel_rfl, by decide +kernel, by decide +kernel, by decide⟩
theorem isCmF : Fn P 157 fd157 [.kself] isCmN isCmB := ⟨⟨⟨_, _, _, rfl⟩, by kernel_rfl, by kernel_rfl, rfl, rfl, by kernel_rfl, rfl, rfl, rfl⟩, by kernel_rfl, by decide +kernel, by decide +kernel, by decide⟩
theorem tk0F : Fn P 228 fd228 [.kself, .kf, .kfilename] tk0N tk0B := ⟨⟨⟨_, _, _, rfl⟩, by kernel_rfl, by kernel_rfl, rfl, rfl, by kernel_rfl, rfl, rfl, rfl⟩, by kernel_rfl, by decide +kernel, by decide +kernel, by decide⟩
theorem getcF : Fn P 235 fd235 [.kself] getcN getcB := ⟨⟨⟨_, _, _, rfl⟩, by kernel_rfl, by kernel_rfl, rfl, rfl, by kernel_rfl, rfl, rfl, rfl⟩, by kernel_rfl, by decide +kernel, by decide +kernel, by decide⟩
theorem whereF : Fn P 242 fd242 [.kself] whereN whereB := ⟨⟨⟨_, _, _, rfl⟩, by kernel_rfl, by kernel_rfl, rfl, rfl, by kernel_rfl, rfl, rfl, rfl⟩, by kernel_rfl, by decide +kernel, by decide +kernel, by decide⟩
theorem ungcF : Fn P 249 fd249 [.kself, .kc] ungcN ungcB := ⟨⟨⟨_, _, _, rfl⟩, by kernel_rfl, by kernel_rfl, rfl, rfl, by kernel_rfl, rfl, rfl, rfl⟩, by kernel_rfl, by decide +kernel, by decide +kernel, by decide⟩
theorem skipF : Fn P 256 fd256 [.kself] skipN skipB := ⟨⟨⟨_, _, _, rfl⟩, by kernel_rfl, by kernel_rfl, rfl, rfl, by kernel_rfl, rfl, rfl, rfl⟩, by kernel_rfl, by decide +kernel, by decide +kernel, by decide⟩
theorem getF : Fn P 264 fd264 [.kself, .kwant_leading, .kwant_comment] getN getB := ⟨⟨⟨_, _, _, rfl⟩, by kernel_rfl, by kernel_rfl, rfl, rfl, by kernel_rfl, rfl, rfl, rfl⟩, by kernel_rfl, by decide +kernel, by decide +kernel, by decide⟩
theorem ungetF : Fn P 271 fd271 [.kself, .ktoken] ungetN ungetB := ⟨⟨⟨_, _, _, rfl⟩, by kernel_rfl, by kernel_rfl, rfl, rfl, by kernel_rfl, rfl, rfl, rfl⟩, by kernel_rfl, by decide +kernel, by decide +kernel, by decide⟩
theorem rowF : Fn P 465 fd465 [.kscript] rowN rowB := ⟨⟨⟨_, _, _, rfl⟩, by kernel_rfl, by kernel_rfl, rfl, rfl, by kernel_rfl, rfl, rfl, rfl⟩, by kernel_rfl, by decide +kernel, by decide +kernel, by decide⟩
theorem textF : Fn P 472 fd472 [.knumbers] textN textB := ⟨⟨⟨_, _, _, rfl⟩, by kernel_rfl, by kernel_rfl, rfl, rfl, by kernel_rfl, rfl, rfl, rfl⟩, by kernel_rfl, by decide +kernel, by decide +kernel, by decide⟩
theorem bodyF' : Fn P 479 fd479 [.ktext, .kat, .kinside] bodyN bodyB := ⟨⟨⟨_, _, _, rfl⟩, by kernel_rfl, by kernel_rfl, rfl, rfl, by kernel_rfl, rfl, rfl, rfl⟩, by kernel_rfl, by decide +kernel, by decide +kernel, by decide⟩
theorem piecesF : Fn P 486 fd486 [.ktext] piecesN piecesB := ⟨⟨⟨_, _, _, rfl⟩, by kernel_rfl, by kernel_rfl, rfl, rfl, by kernel_rfl, rfl, rfl, rfl⟩, by kernel_rfl, by decide +kernel, by decide +kernel, by decide⟩
theorem pastF : Fn P 493 fd493 [.kpieces, .kat, .kdepth] pastN pastB := ⟨⟨⟨_, _, _, rfl⟩, by kernel_rfl, by kernel_rfl, rfl, rfl, by kernel_rfl, rfl, rfl, rfl⟩, by kernel_rfl, by decide +kernel, by decide +kernel, by decide⟩
theorem nextF : Fn P 500 fd500 [.kpieces, .kbegin, .kdepth, .klead, .knote] nextN nextB := ⟨⟨⟨_, _, _, rfl⟩, by kernel_rfl, by kernel_rfl, rfl, rfl, by kernel_rfl, rfl, rfl, rfl⟩, by kernel_rfl, by decide +kernel, by decide +kernel, by decide⟩
theorem fullF : Fn P 507 fd507 [.kreader, .ktoken] fullN fullB := ⟨⟨⟨_, _, _, rfl⟩, by kernel_rfl, by kernel_rfl, rfl, rfl, by kernel_rfl, rfl, rfl, rfl⟩, by kernel_rfl, by decide +kernel, by decide +kernel, by decide⟩
theorem toldF : Fn P 514 fd514 [.kreader, .klead, .knote] toldN toldB := ⟨⟨⟨_, _, _, rfl⟩, by kernel_rfl, by kernel_rfl, rfl, rfl, by kernel_rfl, rfl, rfl, rfl⟩, by kernel_rfl, by decide +kernel, by decide +kernel, by decide⟩
end
end Mine

end
section
open PySem PySem.W PySem.Calls PyProof.Rows
set_option maxRecDepth 100000
set_option linter.all false
set_option bootstrap.genMatcherCode false
set_option maxHeartbeats 200000
namespace Mine
variable {c : Cx} {σ : St}
theorem k1000 {n : Nat} (h : n ≤ 1000) : n ≤ 1000000 := Nat.le_trans h (by decide)
theorem nn (n : Nat) : (0 : Int) ≤ n := Int.natCast_nonneg n
theorem nn1 (n : Nat) : (0 : Int) ≤ (n : Int) + 1 := nn (n + 1)
theorem one_le (x : List Nat) (i : Nat) : (one x i).length ≤ 1 := by unfold one; rw [List.length_take]; exact Nat.min_le_left _ _
theorem read_in (P : Params) {u v : V} : Comes P fd81 [.kself, .kmany] [u, v] [] [] [u, v] := .all rfl fun s us _ h => by
  obtain ⟨u1, u2, rfl⟩ := len2 h
  exact BindsTo.of_eq rfl
theorem read_spec (P : Params) (K : c.Ok) (hK : c.K = KK P) (hc : c.Calls 1) {Q : V → St → Prop} {f : Addr} {x : List Nat} {i : Nat} (hH : σ.H f = some (.inst 84 (txtFs x i))) (hl : x.length ≤ 1000)
   (hQ : Q (.str (one x i)) ⟨σ.loc, σ.H.upd f (.inst 84 (txtFs x (i + (one x i).length)))⟩) : CallV c (.ref 81) [.ref f, .int 1] [] [] σ Q := by
  refine (readF P).call (k := 0) K hK hc (read_in P) fun c' r hc' hK' hX' => ?_
  (repeat (first | refine attI (by ((repeat refine (upd_ne (by first | assumption | exact Ne.symm (by assumption))).trans ?_); first | exact upd_same | assumption | exact TK.tok (by assumption) | exact TK.txt (by assumption))) ?_ | refine stoI (by ((repeat refine (upd_ne (by first | assumption | exact Ne.symm (by assumption))).trans ?_); first | exact upd_same | assumption | exact TK.tok (by assumption) | exact TK.txt (by assumption))) ?_ | refine metI (by ((repeat refine (upd_ne (by first | assumption | exact Ne.symm (by assumption))).trans ?_); first | exact upd_same | assumption | exact TK.tok (by assumption) | exact TK.txt (by assumption))) ?_))
  refine And.intro ⟨k1000 hl, nn _, nn1 _⟩ ?_
  rw [sliceL_one]
  (repeat (first | refine attI (by ((repeat refine (upd_ne (by first | assumption | exact Ne.symm (by assumption))).trans ?_); first | exact upd_same | assumption | exact TK.tok (by assumption) | exact TK.txt (by assumption))) ?_ | refine stoI (by ((repeat refine (upd_ne (by first | assumption | exact Ne.symm (by assumption))).trans ?_); first | exact upd_same | assumption | exact TK.tok (by assumption) | exact TK.txt (by assumption))) ?_ | refine metI (by ((repeat refine (upd_ne (by first | assumption | exact Ne.symm (by assumption))).trans ?_); first | exact upd_same | assumption | exact TK.tok (by assumption) | exact TK.txt (by assumption))) ?_))
  refine CallI.mk (CallV.lenS (Nat.le_trans (one_le x i) (by decide)) ?_)
  (repeat (first | refine attI (by ((repeat refine (upd_ne (by first | assumption | exact Ne.symm (by assumption))).trans ?_); first | exact upd_same | assumption | exact TK.tok (by assumption) | exact TK.txt (by assumption))) ?_ | refine stoI (by ((repeat refine (upd_ne (by first | assumption | exact Ne.symm (by assumption))).trans ?_); first | exact upd_same | assumption | exact TK.tok (by assumption) | exact TK.txt (by assumption))) ?_ | refine metI (by ((repeat refine (upd_ne (by first | assumption | exact Ne.symm (by assumption))).trans ?_); first | exact upd_same | assumption | exact TK.tok (by assumption) | exact TK.txt (by assumption))) ?_))
  exact hQ
theorem text_init (P : Params) (K : c.Ok) (hK : c.K = KK P) (hc : c.Calls 1) {Q : V → St → Prop} {x : List Nat}
   (hQ : ∀ f H', H' f = some (.inst 84 (txtFs x 0)) → Kpa σ.H H' → σ.H f = none → Q (.ref f) ⟨σ.loc, H'⟩) : CallV c (.ref 84) [.str x] [] [] σ Q := by
  refine (text0F P).make (by decide) (k := 0) K hK hc (fun a => .all rfl fun s us _ h => ?_) fun f hf c' r hc' hK' hX' => ?_
  · obtain ⟨u1, u2, rfl⟩ := len2 h
    exact BindsTo.of_eq rfl
  (repeat (first | refine attI (by ((repeat refine (upd_ne (by first | assumption | exact Ne.symm (by assumption))).trans ?_); first | exact upd_same | assumption | exact TK.tok (by assumption) | exact TK.txt (by assumption))) ?_ | refine stoI (by ((repeat refine (upd_ne (by first | assumption | exact Ne.symm (by assumption))).trans ?_); first | exact upd_same | assumption | exact TK.tok (by assumption) | exact TK.txt (by assumption))) ?_ | refine metI (by ((repeat refine (upd_ne (by first | assumption | exact Ne.symm (by assumption))).trans ?_); first | exact upd_same | assumption | exact TK.tok (by assumption) | exact TK.txt (by assumption))) ?_))
  exact ⟨rfl, hQ f _ upd_same (((Kpa.refl _).upd hf).upd hf |>.upd hf) hf⟩
theorem is_ws (P : Params) (K : c.Ok) (hK : c.K = KK P) (hc : c.Calls 1) {Q : V → St → Prop} {a : Addr} {i : Int} {vv ve vc : V} (hH : σ.H a = some (.inst 209 [(.kttype, .int i), (.kvalue, vv), (.khas_escape, ve), (.kcomment, vc)]))
   (hQ : Q (.bool (decide (i = 2))) σ) : CallV c (.ref 136) [.ref a] [] [] σ Q := by
  refine (isWsF P).call (k := 0) K hK hc (.all rfl fun s us _ h => ?_) fun c' r hc' hK' hX' => ?_
  · obtain ⟨u1, rfl⟩ := len1 h
    exact BindsTo.of_eq rfl
  (repeat (first | refine attI (by ((repeat refine (upd_ne (by first | assumption | exact Ne.symm (by assumption))).trans ?_); first | exact upd_same | assumption | exact TK.tok (by assumption) | exact TK.txt (by assumption))) ?_ | refine stoI (by ((repeat refine (upd_ne (by first | assumption | exact Ne.symm (by assumption))).trans ?_); first | exact upd_same | assumption | exact TK.tok (by assumption) | exact TK.txt (by assumption))) ?_ | refine metI (by ((repeat refine (upd_ne (by first | assumption | exact Ne.symm (by assumption))).trans ?_); first | exact upd_same | assumption | exact TK.tok (by assumption) | exact TK.txt (by assumption))) ?_))
  exact hQ
theorem is_cm (P : Params) (K : c.Ok) (hK : c.K = KK P) (hc : c.Calls 1) {Q : V → St → Prop} {a : Addr} {i : Int} {vv ve vc : V} (hH : σ.H a = some (.inst 209 [(.kttype, .int i), (.kvalue, vv), (.khas_escape, ve), (.kcomment, vc)]))
   (hQ : Q (.bool (decide (i = 5))) σ) : CallV c (.ref 157) [.ref a] [] [] σ Q := by
  refine (isCmF P).call (k := 0) K hK hc (.all rfl fun s us _ h => ?_) fun c' r hc' hK' hX' => ?_
  · obtain ⟨u1, rfl⟩ := len1 h
    exact BindsTo.of_eq rfl
  (repeat (first | refine attI (by ((repeat refine (upd_ne (by first | assumption | exact Ne.symm (by assumption))).trans ?_); first | exact upd_same | assumption | exact TK.tok (by assumption) | exact TK.txt (by assumption))) ?_ | refine stoI (by ((repeat refine (upd_ne (by first | assumption | exact Ne.symm (by assumption))).trans ?_); first | exact upd_same | assumption | exact TK.tok (by assumption) | exact TK.txt (by assumption))) ?_ | refine metI (by ((repeat refine (upd_ne (by first | assumption | exact Ne.symm (by assumption))).trans ?_); first | exact upd_same | assumption | exact TK.tok (by assumption) | exact TK.txt (by assumption))) ?_))
  exact hQ
theorem where_spec (P : Params) (K : c.Ok) (hK : c.K = KK P) (hc : c.Calls 1) {Q : V → St → Prop} {a f : Addr} {x nF : List Nat} {u : V} {t : T} (hT : TK σ.H a f x nF u t)
   (hQ : Q (.tup [.str nF, .int t.line]) σ) : CallV c (.ref 242) [.ref a] [] [] σ Q := by
  refine (whereF P).call (k := 0) K hK hc (.all rfl fun s us _ h => ?_) fun c' r hc' hK' hX' => ?_
  · obtain ⟨u1, rfl⟩ := len1 h
    exact BindsTo.of_eq rfl
  (repeat (first | refine attI (by ((repeat refine (upd_ne (by first | assumption | exact Ne.symm (by assumption))).trans ?_); first | exact upd_same | assumption | exact TK.tok (by assumption) | exact TK.txt (by assumption))) ?_ | refine stoI (by ((repeat refine (upd_ne (by first | assumption | exact Ne.symm (by assumption))).trans ?_); first | exact upd_same | assumption | exact TK.tok (by assumption) | exact TK.txt (by assumption))) ?_ | refine metI (by ((repeat refine (upd_ne (by first | assumption | exact Ne.symm (by assumption))).trans ?_); first | exact upd_same | assumption | exact TK.tok (by assumption) | exact TK.txt (by assumption))) ?_))
  exact hQ
theorem ungc_spec (P : Params) (K : c.Ok) (hK : c.K = KK P) (hc : c.Calls 1) {Q : V → St → Prop} {a f : Addr} {x nF ch : List Nat} {u : V} {t : T} (hT : TK σ.H a f x nF u t) (hu : t.uch = none)
   (hQ : ∀ H', TK H' a f x nF u (ung t ch) → Kp a f σ.H H' → Q .none ⟨σ.loc, H'⟩) : CallV c (.ref 249) [.ref a, .str ch] [] [] σ Q := by
  refine (ungcF P).call (k := 0) K hK hc (.all rfl fun s us _ h => ?_) fun c' r hc' hK' hX' => ?_
  · obtain ⟨u1, u2, rfl⟩ := len2 h
    exact BindsTo.of_eq rfl
  obtain ⟨at_, uch, ml, q, eof, cr, line⟩ := t
  obtain rfl : uch = none := hu
  have hne := hT.ne
  (repeat (first | refine attI (by ((repeat refine (upd_ne (by first | assumption | exact Ne.symm (by assumption))).trans ?_); first | exact upd_same | assumption | exact TK.tok (by assumption) | exact TK.txt (by assumption))) ?_ | refine stoI (by ((repeat refine (upd_ne (by first | assumption | exact Ne.symm (by assumption))).trans ?_); first | exact upd_same | assumption | exact TK.tok (by assumption) | exact TK.txt (by assumption))) ?_ | refine metI (by ((repeat refine (upd_ne (by first | assumption | exact Ne.symm (by assumption))).trans ?_); first | exact upd_same | assumption | exact TK.tok (by assumption) | exact TK.txt (by assumption))) ?_))
  exact hQ _ ⟨upd_same, (upd_ne (Ne.symm hne)).trans hT.txt⟩ (Kp.refl _).a

/-- what a read sign becomes -/
noncomputable def gfin (c2 : List Nat) (a2 ml : Nat) (q : Bool) (line : Nat) : List Nat × T :=
  let k := c2 == [13] && !q
  let c3 := if k then [10] else c2
  (c3, ⟨a2, none, ml, q, c3 == [], k, if c3 == [10] then line + 1 else line⟩)
theorem getc_0 (x : List Nat) (at_ ml line : Nat) (q : Bool) : getc x ⟨at_, none, ml, q, false, false, line⟩ = gfin (one x at_) (at_ + (one x at_).length) ml q line := rfl
theorem getc_1 (x : List Nat) (at_ ml line : Nat) (q : Bool) (h : one x at_ = [10]) : getc x ⟨at_, none, ml, q, false, true, line⟩ = gfin (one x (at_ + (one x at_).length)) (at_ + (one x at_).length + (one x (at_ + (one x at_).length)).length) ml q line := by
  have e : (one x at_ == [10]) = true := by rw [h]; rfl
  unfold getc gfin
  simp only [e, Bool.true_and, if_true, Bool.false_eq_true, if_false]
theorem getc_2 (x : List Nat) (at_ ml line : Nat) (q : Bool) (h : ¬ one x at_ = [10]) : getc x ⟨at_, none, ml, q, false, true, line⟩ = gfin (one x at_) (at_ + (one x at_).length) ml q line := by
  have e : (one x at_ == [10]) = false := beq_eq_false_iff_ne.mpr h
  unfold getc gfin
  simp only [e, Bool.and_false, Bool.false_eq_true, if_false]
theorem gfin_o {c2 : List Nat} (a2 ml line : Nat) (q : Bool) (h : ¬ c2 = [13]) (h0 : ¬ c2 = []) (h1 : ¬ c2 = [10]) : gfin c2 a2 ml q line = (c2, ⟨a2, none, ml, q, false, false, line⟩) := by
  have e : (c2 == [13]) = false := beq_eq_false_iff_ne.mpr h
  have e0 : (c2 == []) = false := beq_eq_false_iff_ne.mpr h0
  have e1 : (c2 == [10]) = false := beq_eq_false_iff_ne.mpr h1
  unfold gfin
  simp only [e, e0, e1, Bool.false_and, Bool.false_eq_true, if_false]
noncomputable abbrev getcT : B := ((((getcB.s 0).b1.s 0).b2).drop 2)
theorem getc_tail (c' : Cx) {Q : Fl → St → Prop} {H : Hp} {a f : Addr} {x nF c2 : List Nat} {u : V} {a2 ml line : Nat} {q : Bool} (hT : TK H a f x nF u ⟨a2, none, ml, q, false, false, line⟩)
    (hQ : ∀ H', TK H' a f x nF u (gfin c2 a2 ml q line).2 → Kp a f H H' → Q .next ⟨[(.kself, .ref a), (.kc, .str (gfin c2 a2 ml q line).1)], H'⟩) : getcT.v c' Q ⟨[(.kself, .ref a), (.kc, .str c2)], H⟩ := by
  have hfa := Ne.symm hT.ne
  by_cases h13 : c2 = [13]
  · subst h13
    cases q
    · (repeat (first | refine attI (by ((repeat refine (upd_ne (by first | assumption | exact Ne.symm (by assumption))).trans ?_); first | exact upd_same | assumption | exact TK.tok (by assumption) | exact TK.txt (by assumption))) ?_ | refine stoI (by ((repeat refine (upd_ne (by first | assumption | exact Ne.symm (by assumption))).trans ?_); first | exact upd_same | assumption | exact TK.tok (by assumption) | exact TK.txt (by assumption))) ?_ | refine metI (by ((repeat refine (upd_ne (by first | assumption | exact Ne.symm (by assumption))).trans ?_); first | exact upd_same | assumption | exact TK.tok (by assumption) | exact TK.txt (by assumption))) ?_))
      exact hQ _ ⟨upd_same, (upd_ne hfa).trans ((upd_ne hfa).trans hT.txt)⟩ (Kp.refl _).a.a
    · (repeat (first | refine attI (by ((repeat refine (upd_ne (by first | assumption | exact Ne.symm (by assumption))).trans ?_); first | exact upd_same | assumption | exact TK.tok (by assumption) | exact TK.txt (by assumption))) ?_ | refine stoI (by ((repeat refine (upd_ne (by first | assumption | exact Ne.symm (by assumption))).trans ?_); first | exact upd_same | assumption | exact TK.tok (by assumption) | exact TK.txt (by assumption))) ?_ | refine metI (by ((repeat refine (upd_ne (by first | assumption | exact Ne.symm (by assumption))).trans ?_); first | exact upd_same | assumption | exact TK.tok (by assumption) | exact TK.txt (by assumption))) ?_))
      exact hQ _ ⟨hT.tok, hT.txt⟩ (Kp.refl _)
  by_cases h0 : c2 = []
  · subst h0
    (repeat (first | refine attI (by ((repeat refine (upd_ne (by first | assumption | exact Ne.symm (by assumption))).trans ?_); first | exact upd_same | assumption | exact TK.tok (by assumption) | exact TK.txt (by assumption))) ?_ | refine stoI (by ((repeat refine (upd_ne (by first | assumption | exact Ne.symm (by assumption))).trans ?_); first | exact upd_same | assumption | exact TK.tok (by assumption) | exact TK.txt (by assumption))) ?_ | refine metI (by ((repeat refine (upd_ne (by first | assumption | exact Ne.symm (by assumption))).trans ?_); first | exact upd_same | assumption | exact TK.tok (by assumption) | exact TK.txt (by assumption))) ?_))
    exact hQ _ ⟨upd_same, (upd_ne hfa).trans hT.txt⟩ (Kp.refl _).a
  by_cases h10 : c2 = [10]
  · subst h10
    (repeat (first | refine attI (by ((repeat refine (upd_ne (by first | assumption | exact Ne.symm (by assumption))).trans ?_); first | exact upd_same | assumption | exact TK.tok (by assumption) | exact TK.txt (by assumption))) ?_ | refine stoI (by ((repeat refine (upd_ne (by first | assumption | exact Ne.symm (by assumption))).trans ?_); first | exact upd_same | assumption | exact TK.tok (by assumption) | exact TK.txt (by assumption))) ?_ | refine metI (by ((repeat refine (upd_ne (by first | assumption | exact Ne.symm (by assumption))).trans ?_); first | exact upd_same | assumption | exact TK.tok (by assumption) | exact TK.txt (by assumption))) ?_))
    exact hQ _ ⟨upd_same, (upd_ne hfa).trans hT.txt⟩ (Kp.refl _).a
  rw [gfin_o a2 ml line q h13 h0 h10] at hQ
  (conv => whnf)
  refine brF (decide_eq_false h13) ?_
  (conv => whnf)
  refine brF (decide_eq_false h0) ?_
  (conv => whnf)
  refine brF (decide_eq_false h10) ?_
  exact hQ _ ⟨hT.tok, hT.txt⟩ (Kp.refl _)
theorem getc_spec (P : Params) (K : c.Ok) (hK : c.K = KK P) (hc : c.Calls 2) {Q : V → St → Prop} {a f : Addr} {x nF : List Nat} {u : V} {t : T} (hT : TK σ.H a f x nF u t) (hl : x.length ≤ 1000)
   (hQ : ∀ H', TK H' a f x nF u (getc x t).2 → Kp a f σ.H H' → Q (.str (getc x t).1) ⟨σ.loc, H'⟩) : CallV c (.ref 235) [.ref a] [] [] σ Q := by
  refine (getcF P).call (k := 1) K hK hc (.all rfl fun s us _ h => ?_) fun c' r hc' hK' hX' => ?_
  · obtain ⟨u1, rfl⟩ := len1 h
    exact BindsTo.of_eq rfl
  obtain ⟨at_, uch, ml, q, eof, cr, line⟩ := t
  have h1 := hT.tok
  have h2 : σ.H f = some (.inst 84 (txtFs x at_)) := hT.txt
  have hne := hT.ne
  have hfa := Ne.symm hne
  cases uch with
  | some ch =>
    (repeat (first | refine attI (by ((repeat refine (upd_ne (by first | assumption | exact Ne.symm (by assumption))).trans ?_); first | exact upd_same | assumption | exact TK.tok (by assumption) | exact TK.txt (by assumption))) ?_ | refine stoI (by ((repeat refine (upd_ne (by first | assumption | exact Ne.symm (by assumption))).trans ?_); first | exact upd_same | assumption | exact TK.tok (by assumption) | exact TK.txt (by assumption))) ?_ | refine metI (by ((repeat refine (upd_ne (by first | assumption | exact Ne.symm (by assumption))).trans ?_); first | exact upd_same | assumption | exact TK.tok (by assumption) | exact TK.txt (by assumption))) ?_))
    exact hQ _ ⟨upd_same, (upd_ne hfa).trans h2⟩ (Kp.refl _).a
  | none =>
    cases eof
    · cases cr
      · (repeat (first | refine attI (by ((repeat refine (upd_ne (by first | assumption | exact Ne.symm (by assumption))).trans ?_); first | exact upd_same | assumption | exact TK.tok (by assumption) | exact TK.txt (by assumption))) ?_ | refine stoI (by ((repeat refine (upd_ne (by first | assumption | exact Ne.symm (by assumption))).trans ?_); first | exact upd_same | assumption | exact TK.tok (by assumption) | exact TK.txt (by assumption))) ?_ | refine metI (by ((repeat refine (upd_ne (by first | assumption | exact Ne.symm (by assumption))).trans ?_); first | exact upd_same | assumption | exact TK.tok (by assumption) | exact TK.txt (by assumption))) ?_))
        refine CallI.mk (read_spec P r.K hK' hc' h2 hl ?_)
        (repeat (first | refine attI (by ((repeat refine (upd_ne (by first | assumption | exact Ne.symm (by assumption))).trans ?_); first | exact upd_same | assumption | exact TK.tok (by assumption) | exact TK.txt (by assumption))) ?_ | refine stoI (by ((repeat refine (upd_ne (by first | assumption | exact Ne.symm (by assumption))).trans ?_); first | exact upd_same | assumption | exact TK.tok (by assumption) | exact TK.txt (by assumption))) ?_ | refine metI (by ((repeat refine (upd_ne (by first | assumption | exact Ne.symm (by assumption))).trans ?_); first | exact upd_same | assumption | exact TK.tok (by assumption) | exact TK.txt (by assumption))) ?_))
        rw [getc_0] at hQ
        exact getc_tail c' (a2 := at_ + (one x at_).length) ⟨(upd_ne hne).trans h1, upd_same⟩ fun H' g1 g2 => hQ H' g1 ((Kp.refl _).f.trans g2)
      · (repeat (first | refine attI (by ((repeat refine (upd_ne (by first | assumption | exact Ne.symm (by assumption))).trans ?_); first | exact upd_same | assumption | exact TK.tok (by assumption) | exact TK.txt (by assumption))) ?_ | refine stoI (by ((repeat refine (upd_ne (by first | assumption | exact Ne.symm (by assumption))).trans ?_); first | exact upd_same | assumption | exact TK.tok (by assumption) | exact TK.txt (by assumption))) ?_ | refine metI (by ((repeat refine (upd_ne (by first | assumption | exact Ne.symm (by assumption))).trans ?_); first | exact upd_same | assumption | exact TK.tok (by assumption) | exact TK.txt (by assumption))) ?_))
        refine CallI.mk (read_spec P r.K hK' hc' h2 hl ?_)
        (repeat (first | refine attI (by ((repeat refine (upd_ne (by first | assumption | exact Ne.symm (by assumption))).trans ?_); first | exact upd_same | assumption | exact TK.tok (by assumption) | exact TK.txt (by assumption))) ?_ | refine stoI (by ((repeat refine (upd_ne (by first | assumption | exact Ne.symm (by assumption))).trans ?_); first | exact upd_same | assumption | exact TK.tok (by assumption) | exact TK.txt (by assumption))) ?_ | refine metI (by ((repeat refine (upd_ne (by first | assumption | exact Ne.symm (by assumption))).trans ?_); first | exact upd_same | assumption | exact TK.tok (by assumption) | exact TK.txt (by assumption))) ?_))
        (conv => whnf)
        refine brI (fun hb => ?_) (fun hb => ?_)
        · rw [getc_1 _ _ _ _ _ (of_decide_eq_true hb)] at hQ
          (repeat (first | refine attI (by ((repeat refine (upd_ne (by first | assumption | exact Ne.symm (by assumption))).trans ?_); first | exact upd_same | assumption | exact TK.tok (by assumption) | exact TK.txt (by assumption))) ?_ | refine stoI (by ((repeat refine (upd_ne (by first | assumption | exact Ne.symm (by assumption))).trans ?_); first | exact upd_same | assumption | exact TK.tok (by assumption) | exact TK.txt (by assumption))) ?_ | refine metI (by ((repeat refine (upd_ne (by first | assumption | exact Ne.symm (by assumption))).trans ?_); first | exact upd_same | assumption | exact TK.tok (by assumption) | exact TK.txt (by assumption))) ?_))
          refine CallI.mk (read_spec P r.K hK' hc' ((upd_ne hfa).trans upd_same) hl ?_)
          exact getc_tail c' ⟨(upd_ne hne).trans upd_same, upd_same⟩ fun H' g1 g2 => hQ H' g1 ((Kp.refl _).f.a.f.trans g2)
        · rw [getc_2 _ _ _ _ _ (of_decide_eq_false hb)] at hQ
          exact getc_tail c' ⟨upd_same, (upd_ne hfa).trans upd_same⟩ fun H' g1 g2 => hQ H' g1 ((Kp.refl _).f.a.trans g2)
    · (repeat (first | refine attI (by ((repeat refine (upd_ne (by first | assumption | exact Ne.symm (by assumption))).trans ?_); first | exact upd_same | assumption | exact TK.tok (by assumption) | exact TK.txt (by assumption))) ?_ | refine stoI (by ((repeat refine (upd_ne (by first | assumption | exact Ne.symm (by assumption))).trans ?_); first | exact upd_same | assumption | exact TK.tok (by assumption) | exact TK.txt (by assumption))) ?_ | refine metI (by ((repeat refine (upd_ne (by first | assumption | exact Ne.symm (by assumption))).trans ?_); first | exact upd_same | assumption | exact TK.tok (by assumption) | exact TK.txt (by assumption))) ?_))
      exact hQ _ ⟨h1, h2⟩ (Kp.refl _)

theorem skip_stop {x : List Nat} {n k : Nat} {t : T} (h : (getc x t).1 ≠ [32] ∧ (getc x t).1 ≠ [9] ∧ ((getc x t).1 ≠ [10] ∨ (getc x t).2.ml = 0)) : skip x (n + 1) k t = (k, ung (getc x t).2 (getc x t).1) := if_pos h
theorem skip_go {x : List Nat} {n k : Nat} {t : T} (h : ¬ ((getc x t).1 ≠ [32] ∧ (getc x t).1 ≠ [9] ∧ ((getc x t).1 ≠ [10] ∨ (getc x t).2.ml = 0))) : skip x (n + 1) k t = skip x n (k + 1) (getc x t).2 := if_neg h
theorem notT {p : Prop} [Decidable p] (h : ¬ p) : (!decide p) = true := by rw [decide_eq_false h]; rfl
theorem notF {p : Prop} [Decidable p] (h : p) : (!decide p) = false := by rw [decide_eq_true h]; rfl
theorem c0 {n : Nat} (h : n = 0) : ((n : Int) = 0) := by subst h; rfl
theorem c0' {n : Nat} (h : ¬ n = 0) : ¬ ((n : Int) = 0) := fun e => h (Int.ofNat.inj e)
theorem nnT {b : Bool} (h : b = true) : (!!b) = true := by subst h; rfl
theorem nnF {b : Bool} (h : b = false) : (!!b) = false := by subst h; rfl
theorem skip_mu' {x : List Nat} {t : T} {n : Nat} (h : ¬ ((getc x t).1 ≠ [32] ∧ (getc x t).1 ≠ [9] ∧ ((getc x t).1 ≠ [10] ∨ (getc x t).2.ml = 0))) (h1 : mu x t < n + 1) : mu x (getc x t).2 < n := by
  have := getc_mu (x := x) (t := t) (by intro h0; exact h (by rw [h0]; exact ⟨by decide, by decide, .inl (by decide)⟩))
  omega
theorem skip_spec (P : Params) (K : c.Ok) (hK : c.K = KK P) (hc : c.Calls 3) {Q : V → St → Prop} {a f : Addr} {x nF : List Nat} {u : V} {t : T} (hT : TK σ.H a f x nF u t) (hl : x.length ≤ 1000) {F : Nat} (hF : mu x t < F)
   (hQ : ∀ H', TK H' a f x nF u (skip x F 0 t).2 → Kp a f σ.H H' → Q (.int (skip x F 0 t).1) ⟨σ.loc, H'⟩) : CallV c (.ref 256) [.ref a] [] [] σ Q := by
  refine (skipF P).call (k := 2) K hK hc (.all rfl fun s us _ h => ?_) fun c' r hc' hK' hX' => ?_
  · obtain ⟨u1, rfl⟩ := len1 h
    exact BindsTo.of_eq rfl
  refine RunI.whl (G := Nat × T) r (by decide +kernel) (fun g => [(.kself, .ref a), (.kskipped, .int g.1)]) (fun n g H' => TK H' a f x nF u g.2 ∧ Kp a f σ.H H' ∧ mu x g.2 < n ∧ skip x n g.1 g.2 = skip x F 0 t) F (0, t) ⟨rfl, rfl, trivial⟩ ⟨hT, Kp.refl _, hF, rfl⟩ ?_
  intro n g H hP J T hN _ _ _ hR
  obtain _ | n := n
  · exact absurd hP.2.2.1 (Nat.not_lt_zero _)
  have hT1 := hP.1
  (repeat (first | refine attI (by ((repeat refine (upd_ne (by first | assumption | exact Ne.symm (by assumption))).trans ?_); first | exact upd_same | assumption | exact TK.tok (by assumption) | exact TK.txt (by assumption))) ?_ | refine stoI (by ((repeat refine (upd_ne (by first | assumption | exact Ne.symm (by assumption))).trans ?_); first | exact upd_same | assumption | exact TK.tok (by assumption) | exact TK.txt (by assumption))) ?_ | refine metI (by ((repeat refine (upd_ne (by first | assumption | exact Ne.symm (by assumption))).trans ?_); first | exact upd_same | assumption | exact TK.tok (by assumption) | exact TK.txt (by assumption))) ?_))
  refine CallI.mk (getc_spec P r.K hK' (Cx.Calls.le hc' (by decide)) hT1 hl fun H2 hT2 hk2 => ?_)
  have go : ¬ ((getc x g.2).1 ≠ [32] ∧ (getc x g.2).1 ≠ [9] ∧ ((getc x g.2).1 ≠ [10] ∨ (getc x g.2).2.ml = 0)) → J .next ⟨[(.kself, .ref a), (.kskipped, .int ((g.1 : Int) + 1)), (.kc, .str (getc x g.2).1)], H2⟩ := fun h =>
    hN n (g.1 + 1, (getc x g.2).2) _ H2 (Nat.lt_succ_self n) ⟨rfl, rfl, trivial⟩ ⟨hT2, hP.2.1.trans hk2, skip_mu' h hP.2.2.1, (skip_go h).symm.trans hP.2.2.2⟩
  by_cases h32 : (getc x g.2).1 = [32]
  · (conv => whnf)
    exact brF (notF h32) (go fun h => h.1 h32)
  (conv => whnf)
  refine brT (notT h32) ?_
  by_cases h9 : (getc x g.2).1 = [9]
  · (conv => whnf)
    exact brF (notF h9) (go fun h => h.2.1 h9)
  (conv => whnf)
  refine brT (notT h9) ?_
  have stop : (getc x g.2).1 ≠ [10] ∨ (getc x g.2).2.ml = 0 → ∀ l H3, TK H3 a f x nF u (ung (getc x g.2).2 (getc x g.2).1) → Kp a f H2 H3 → J (.ret (.int g.1)) ⟨l, H3⟩ := fun h l H3 g1 g2 => by
    have he := hP.2.2.2
    rw [skip_stop ⟨h32, h9, h⟩] at he
    rw [← he] at hQ
    exact hR _ ⟨l, H3⟩ (hQ H3 g1 ((hP.2.1.trans hk2).trans g2))
  by_cases h10 : (getc x g.2).1 = [10]
  · (conv => whnf)
    refine brF (notF h10) ?_
    (repeat (first | refine attI (by ((repeat refine (upd_ne (by first | assumption | exact Ne.symm (by assumption))).trans ?_); first | exact upd_same | assumption | exact TK.tok (by assumption) | exact TK.txt (by assumption))) ?_ | refine stoI (by ((repeat refine (upd_ne (by first | assumption | exact Ne.symm (by assumption))).trans ?_); first | exact upd_same | assumption | exact TK.tok (by assumption) | exact TK.txt (by assumption))) ?_ | refine metI (by ((repeat refine (upd_ne (by first | assumption | exact Ne.symm (by assumption))).trans ?_); first | exact upd_same | assumption | exact TK.tok (by assumption) | exact TK.txt (by assumption))) ?_))
    by_cases h0 : (getc x g.2).2.ml = 0
    · (conv => whnf)
      refine brT (nnT (decide_eq_true (c0 h0))) ?_
      (repeat (first | refine attI (by ((repeat refine (upd_ne (by first | assumption | exact Ne.symm (by assumption))).trans ?_); first | exact upd_same | assumption | exact TK.tok (by assumption) | exact TK.txt (by assumption))) ?_ | refine stoI (by ((repeat refine (upd_ne (by first | assumption | exact Ne.symm (by assumption))).trans ?_); first | exact upd_same | assumption | exact TK.tok (by assumption) | exact TK.txt (by assumption))) ?_ | refine metI (by ((repeat refine (upd_ne (by first | assumption | exact Ne.symm (by assumption))).trans ?_); first | exact upd_same | assumption | exact TK.tok (by assumption) | exact TK.txt (by assumption))) ?_))
      exact CallI.mk (ungc_spec P r.K hK' (Cx.Calls.le hc' (by decide)) hT2 getc_uch fun H3 g1 g2 => stop (.inr h0) _ H3 g1 g2)
    · (conv => whnf)
      exact brF (nnF (decide_eq_false (c0' h0))) (go fun h => (h.2.2).elim (fun q => q h10) h0)
  · (conv => whnf)
    refine brT (notT h10) ?_
    (repeat (first | refine attI (by ((repeat refine (upd_ne (by first | assumption | exact Ne.symm (by assumption))).trans ?_); first | exact upd_same | assumption | exact TK.tok (by assumption) | exact TK.txt (by assumption))) ?_ | refine stoI (by ((repeat refine (upd_ne (by first | assumption | exact Ne.symm (by assumption))).trans ?_); first | exact upd_same | assumption | exact TK.tok (by assumption) | exact TK.txt (by assumption))) ?_ | refine metI (by ((repeat refine (upd_ne (by first | assumption | exact Ne.symm (by assumption))).trans ?_); first | exact upd_same | assumption | exact TK.tok (by assumption) | exact TK.txt (by assumption))) ?_))
    exact CallI.mk (ungc_spec P r.K hK' (Cx.Calls.le hc' (by decide)) hT2 getc_uch fun H3 g1 g2 => stop (.inl h10) _ H3 g1 g2)

noncomputable def tkFs (vt vv ve vc : V) : List (N × V) := [(.kttype, vt), (.kvalue, vv), (.khas_escape, ve), (.kcomment, vc)]
theorem token_spec (P : Params) (K : c.Ok) (hK : c.K = KK P) (hc : c.Calls 1) {Q : V → St → Prop} {vs kv : List V} {kn : List Str} {vt vv ve vc : V} (hv : ∀ a, Comes P fd115 [.kself, .kttype, .kvalue, .khas_escape, .kcomment] (.ref a :: vs) kn kv [.ref a, vt, vv, ve, vc])
   (hQ : ∀ a H', H' a = some (.inst 209 (tkFs vt vv ve vc)) → Kpa σ.H H' → σ.H a = none → Q (.ref a) ⟨σ.loc, H'⟩) : CallV c (.ref 209) vs kn kv σ Q := by
  refine (token0F P).make (by decide) (k := 0) K hK hc hv fun f hf c' r hc' hK' hX' => ?_
  (repeat (first | refine attI (by ((repeat refine (upd_ne (by first | assumption | exact Ne.symm (by assumption))).trans ?_); first | exact upd_same | assumption | exact TK.tok (by assumption) | exact TK.txt (by assumption))) ?_ | refine stoI (by ((repeat refine (upd_ne (by first | assumption | exact Ne.symm (by assumption))).trans ?_); first | exact upd_same | assumption | exact TK.tok (by assumption) | exact TK.txt (by assumption))) ?_ | refine metI (by ((repeat refine (upd_ne (by first | assumption | exact Ne.symm (by assumption))).trans ?_); first | exact upd_same | assumption | exact TK.tok (by assumption) | exact TK.txt (by assumption))) ?_))
  exact ⟨rfl, hQ f _ upd_same (((((Kpa.refl _).upd hf).upd hf).upd hf).upd hf |>.upd hf) hf⟩
theorem in1 (P : Params) {vt vv : V} (a : Addr) : Comes P fd115 [.kself, .kttype, .kvalue, .khas_escape, .kcomment] [.ref a, vt, vv] [] [] [.ref a, vt, vv, .bool false, .none] := ⟨rfl, fun s us ku hI hus hku => by
  obtain ⟨_, _, rfl, h1, _, _, rfl, h2, _, _, rfl, h3, rfl⟩ := hus; cases hku
  exact ⟨[_, _, _, .bool false, .none], ⟨_, _, rfl, h1, _, _, rfl, h2, _, _, rfl, h3, _, _, rfl, rfl, _, _, rfl, rfl, rfl⟩, BindsTo.of_defaults (T := 108) rfl (hI _ _ rfl) rfl rfl rfl⟩⟩
theorem in2 (P : Params) {vt vc : V} (a : Addr) : Comes P fd115 [.kself, .kttype, .kvalue, .khas_escape, .kcomment] [.ref a, vt] [nm .kcomment] [vc] [.ref a, vt, .str [], .bool false, vc] := ⟨rfl, fun s us ku hI hus hku => by
  obtain ⟨_, _, rfl, h1, _, _, rfl, h2, rfl⟩ := hus; obtain ⟨_, _, rfl, h3, rfl⟩ := hku
  exact ⟨[_, _, .str (Str.ofString "") 341, .bool false, _], ⟨_, _, rfl, h1, _, _, rfl, h2, _, _, rfl, ⟨_, rfl⟩, _, _, rfl, rfl, _, _, rfl, h3, rfl⟩, BindsTo.of_defaults (T := 108) rfl (hI _ _ rfl) rfl rfl rfl⟩⟩
theorem in3 (P : Params) {vt vv vc : V} (a : Addr) : Comes P fd115 [.kself, .kttype, .kvalue, .khas_escape, .kcomment] [.ref a, vt, vv] [nm .kcomment] [vc] [.ref a, vt, vv, .bool false, vc] := ⟨rfl, fun s us ku hI hus hku => by
  obtain ⟨_, _, rfl, h1, _, _, rfl, h2, _, _, rfl, h3, rfl⟩ := hus; obtain ⟨_, _, rfl, h4, rfl⟩ := hku
  exact ⟨[_, _, _, .bool false, _], ⟨_, _, rfl, h1, _, _, rfl, h2, _, _, rfl, h3, _, _, rfl, rfl, _, _, rfl, h4, rfl⟩, BindsTo.of_defaults (T := 108) rfl (hI _ _ rfl) rfl rfl rfl⟩⟩
theorem in4 (P : Params) {vt vv ve : V} (a : Addr) : Comes P fd115 [.kself, .kttype, .kvalue, .khas_escape, .kcomment] [.ref a, vt, vv, ve] [] [] [.ref a, vt, vv, ve, .none] := ⟨rfl, fun s us ku hI hus hku => by
  obtain ⟨_, _, rfl, h1, _, _, rfl, h2, _, _, rfl, h3, _, _, rfl, h4, rfl⟩ := hus; cases hku
  exact ⟨[_, _, _, _, .none], ⟨_, _, rfl, h1, _, _, rfl, h2, _, _, rfl, h3, _, _, rfl, h4, _, _, rfl, rfl, rfl⟩, BindsTo.of_defaults (T := 108) rfl (hI _ _ rfl) rfl rfl rfl⟩⟩
theorem in5 (P : Params) {vt vv ve vc : V} (a : Addr) : Comes P fd115 [.kself, .kttype, .kvalue, .khas_escape, .kcomment] [.ref a, vt, vv, ve, vc] [] [] [.ref a, vt, vv, ve, vc] := .all rfl fun s us hI h => by
  obtain ⟨u1, u2, u3, u4, u5, rfl⟩ := len5 h
  exact BindsTo.of_defaults (T := 108) rfl (hI _ _ rfl) rfl rfl rfl
theorem unget_spec (P : Params) (K : c.Ok) (hK : c.K = KK P) (hc : c.Calls 1) {Q : V → St → Prop} {a f : Addr} {x nF : List Nat} {v : V} {t : T} (hT : TK σ.H a f x nF .none t)
   (hQ : ∀ H', TK H' a f x nF v t → Kp a f σ.H H' → Q .none ⟨σ.loc, H'⟩) : CallV c (.ref 271) [.ref a, v] [] [] σ Q := by
  refine (ungetF P).call (k := 0) K hK hc (.all rfl fun s us _ h => ?_) fun c' r hc' hK' hX' => ?_
  · obtain ⟨u1, u2, rfl⟩ := len2 h
    exact BindsTo.of_eq rfl
  (repeat (first | refine attI (by ((repeat refine (upd_ne (by first | assumption | exact Ne.symm (by assumption))).trans ?_); first | exact upd_same | assumption | exact TK.tok (by assumption) | exact TK.txt (by assumption))) ?_ | refine stoI (by ((repeat refine (upd_ne (by first | assumption | exact Ne.symm (by assumption))).trans ?_); first | exact upd_same | assumption | exact TK.tok (by assumption) | exact TK.txt (by assumption))) ?_ | refine metI (by ((repeat refine (upd_ne (by first | assumption | exact Ne.symm (by assumption))).trans ?_); first | exact upd_same | assumption | exact TK.tok (by assumption) | exact TK.txt (by assumption))) ?_))
  exact hQ _ ⟨upd_same, (upd_ne (Ne.symm hT.ne)).trans hT.txt⟩ (Kp.refl _).a
theorem unget_full (P : Params) (K : c.Ok) (hK : c.K = KK P) (hc : c.Calls 1) {Q : V → St → Prop} {a f b : Addr} {x nF : List Nat} {v : V} {t : T} (hT : TK σ.H a f x nF (.ref b) t)
   (hX : c.X 98 σ.H) : CallV c (.ref 271) [.ref a, v] [] [] σ Q := by
  refine (ungetF P).call (k := 0) K hK hc (.all rfl fun s us _ h => ?_) fun c' r hc' hK' hX' => ?_
  · obtain ⟨u1, u2, rfl⟩ := len2 h
    exact BindsTo.of_eq rfl
  rw [← hX'] at hX
  (repeat (first | refine attI (by ((repeat refine (upd_ne (by first | assumption | exact Ne.symm (by assumption))).trans ?_); first | exact upd_same | assumption | exact TK.tok (by assumption) | exact TK.txt (by assumption))) ?_ | refine stoI (by ((repeat refine (upd_ne (by first | assumption | exact Ne.symm (by assumption))).trans ?_); first | exact upd_same | assumption | exact TK.tok (by assumption) | exact TK.txt (by assumption))) ?_ | refine metI (by ((repeat refine (upd_ne (by first | assumption | exact Ne.symm (by assumption))).trans ?_); first | exact upd_same | assumption | exact TK.tok (by assumption) | exact TK.txt (by assumption))) ?_))
  exact hX

noncomputable def comV : Option (List Nat) → V
  | none => .none
  | some l => .str l
/-- what follows a get -/
noncomputable def getK (c : Cx) (l : List (N × V)) (H : Hp) (Q : V → St → Prop) (a f : Addr) (x nF : List Nat) (r : Rs × T) : Prop := match r.1 with
  | .tok ty val esc com => ∀ b H', H' b = some (.inst 209 (tkFs (.int ty) (.str val) (.bool esc) (comV com))) → TK H' a f x nF .none r.2 → Kp a f H H' → Q (.ref b) ⟨l, H'⟩
  | .synt => ∀ H', TK H' a f x nF .none r.2 → Kp a f H H' → c.X 44 H'
  | .ended => ∀ H', TK H' a f x nF .none r.2 → Kp a f H H' → c.X 56 H'
/-- the names in the loop of get -/
noncomputable abbrev GL (a : Addr) (lead note : Bool) (sk : Int) (tk : List Nat) (ty : Nat) (esc : Bool) : List (N × V) :=
  [(.kself, .ref a), (.kwant_leading, .bool lead), (.kwant_comment, .bool note), (.kskipped, .int sk), (.ktoken, .str tk), (.kttype, .int ty), (.khas_escape, .bool esc)]
noncomputable abbrev GLc (a : Addr) (lead note : Bool) (sk : Int) (tk : List Nat) (ty : Nat) (esc : Bool) (ch : List Nat) : List (N × V) :=
  [(.kself, .ref a), (.kwant_leading, .bool lead), (.kwant_comment, .bool note), (.kskipped, .int sk), (.ktoken, .str tk), (.kttype, .int ty), (.khas_escape, .bool esc), (.kc, .str ch)]
noncomputable abbrev getL : B := (getB.s 6).b1
noncomputable abbrev getM : B := getL.drop 1
noncomputable abbrev getT : B := getB.drop 7
/-- what holds at the head of the loop -/
structure GP (a f : Addr) (x nF : List Nat) (note : Bool) (H₀ : Hp) (R : Rs × T) (n : Nat) (tk : List Nat) (ty : Nat) (esc : Bool) (t : T) (H : Hp) : Prop where
  tok : TK H a f x nF .none t
  kp : Kp a f H₀ H
  hmu : mu x t < n
  len : tk.length + 2 * n ≤ 402
  wf : Wf t
  hty : ty = 3 ∨ ty = 4
  eq : loop x note n tk ty esc t = R
/-- the frame that get runs in, and what lies behind it -/
structure GC (P : Params) (c' : Cx) (Q : V → St → Prop) (c : Cx) (l₀ : List (N × V)) (a f : Addr) (x nF : List Nat) (H₀ : Hp) (R : Rs × T) : Prop where
  r : Rdy c' getN
  hK : c'.K = KK P
  hc : c'.Calls 3
  hX : c'.X = c.X
  hl : x.length ≤ 40
  hQ : getK c l₀ H₀ Q a f x nF R
section
variable {P : Params} {c' : Cx} {Q : V → St → Prop} {l₀ : List (N × V)} {a f : Addr} {x nF : List Nat} {H₀ : Hp} {R : Rs × T}
theorem GC.syn (G : GC P c' Q c l₀ a f x nF H₀ R) {t : T} {H : Hp} (h : R = (.synt, t)) (hT : TK H a f x nF .none t) (hk : Kp a f H₀ H) : c'.X 44 H := by
  have q := G.hQ
  rw [h] at q
  rw [G.hX]
  exact q H hT hk
theorem GC.end (G : GC P c' Q c l₀ a f x nF H₀ R) {t : T} {H : Hp} (h : R = (.ended, t)) (hT : TK H a f x nF .none t) (hk : Kp a f H₀ H) : c'.X 56 H := by
  have q := G.hQ
  rw [h] at q
  rw [G.hX]
  exact q H hT hk
/-- a token is made and given -/
theorem GC.tok (G : GC P c' Q c l₀ a f x nF H₀ R) {ty : Nat} {val : List Nat} {esc : Bool} {com : Option (List Nat)} {t : T} {l : List (N × V)} {H : Hp} {vs kv : List V} {kn : List Str} (h : R = (.tok ty val esc com, t)) (hT : TK H a f x nF .none t) (hk : Kp a f H₀ H)
    (hv : ∀ a, Comes P fd115 [.kself, .kttype, .kvalue, .khas_escape, .kcomment] (.ref a :: vs) kn kv [.ref a, .int ty, .str val, .bool esc, comV com]) {J : Fl → St → Prop} (hR : ∀ v σ, retK l₀ Q (.ret v) σ → J (.ret v) σ) :
    CallI c' (.ref 209) vs kn kv ⟨l, H⟩ fun v σ => J (.ret v) σ := by
  refine ⟨token_spec P G.r.K G.hK (Cx.Calls.le G.hc (by decide)) hv fun b H' h1 h2 _ => hR _ _ ?_⟩
  have q := G.hQ
  rw [h] at q
  exact q b H' h1 ⟨h2 _ _ hT.tok, h2 _ _ hT.txt⟩ (hk.trans h2.kp)
theorem i4F {n : Nat} (h : ¬ n = 4) : (!decide ((n : Int) = 4)) = true := notT fun e => h (Int.ofNat.inj e)
theorem ml0 {n : Nat} (h : n = 0) : (!decide ((n : Int) = 0)) = false := by subst h; rfl
theorem ml1 {n : Nat} (h : ¬ n = 0) : (!decide ((n : Int) = 0)) = true := notT (c0' h)
/-- behind the loop -/
theorem get_tail (G : GC P c' Q c l₀ a f x nF H₀ R) {lead note : Bool} {sk : Int} {tk ch : List Nat} {ty : Nat} {esc : Bool} {t : T} {H : Hp} (hT : TK H a f x nF .none t) (hk : Kp a f H₀ H) (h : fin tk ty esc t = R) : getT.v c' (retK l₀ Q) ⟨GLc a lead note sk tk ty esc ch, H⟩ := by
  by_cases h4 : ty = 4
  · subst h4
    have h : R = (.tok 4 tk esc none, t) := h.symm.trans (if_neg fun h => h.2 rfl)
    cases tk with
    | nil => exact G.tok (val := []) h hT hk (in4 P) fun _ _ q => q
    | cons m tr => exact G.tok (val := m :: tr) h hT hk (in4 P) fun _ _ q => q
  cases tk with
  | cons m tr =>
    have h : R = (.tok ty (m :: tr) esc none, t) := h.symm.trans (if_neg fun h => by cases h.1)
    exact G.tok (val := m :: tr) h hT hk (in4 P) fun _ _ q => q
  | nil =>
    have h : R = if t.ml ≠ 0 then (.synt, t) else (.tok 0 [] esc none, t) := h.symm.trans (if_pos ⟨rfl, h4⟩)
    (conv => whnf)
    refine brT (i4F h4) ?_
    (repeat (first | refine attI (by ((repeat refine (upd_ne (by first | assumption | exact Ne.symm (by assumption))).trans ?_); first | exact upd_same | assumption | exact TK.tok (by assumption) | exact TK.txt (by assumption))) ?_ | refine stoI (by ((repeat refine (upd_ne (by first | assumption | exact Ne.symm (by assumption))).trans ?_); first | exact upd_same | assumption | exact TK.tok (by assumption) | exact TK.txt (by assumption))) ?_ | refine metI (by ((repeat refine (upd_ne (by first | assumption | exact Ne.symm (by assumption))).trans ?_); first | exact upd_same | assumption | exact TK.tok (by assumption) | exact TK.txt (by assumption))) ?_))
    by_cases h0 : t.ml = 0
    · (conv => whnf)
      refine brF (ml0 h0) ?_
      exact G.tok (val := []) (h.trans (if_neg fun q => q h0)) hT hk (in4 P) fun _ _ q => q
    · (conv => whnf)
      refine brT (ml1 h0) ?_
      exact G.syn (h.trans (if_pos h0)) hT hk
end

section
variable {P : Params} {c' : Cx} {Q : V → St → Prop} {l₀ : List (N × V)} {a f : Addr} {x nF : List Nat} {H₀ : Hp} {R : Rs × T} {lead note : Bool} {sk : Int} {n : Nat} {J : Fl → St → Prop}
/-- where a round of the loop may go -/
structure GJ (c' : Cx) (Q : V → St → Prop) (l₀ : List (N × V)) (a f : Addr) (x nF : List Nat) (H₀ : Hp) (R : Rs × T) (lead note : Bool) (sk : Int) (n : Nat) (J : Fl → St → Prop) : Prop where
  nx : ∀ tk ty esc t l H, subL l (GL a lead note sk tk ty esc) → GP a f x nF note H₀ R n tk ty esc t H → J .next ⟨l, H⟩
  ct : ∀ tk ty esc t l H, subL l (GL a lead note sk tk ty esc) → GP a f x nF note H₀ R n tk ty esc t H → J .cont ⟨l, H⟩
  bk : ∀ σ, getT.v c' (retK l₀ Q) σ → J .brk σ
  rt : ∀ v σ, retK l₀ Q (.ret v) σ → J (.ret v) σ
theorem mu_dn {a b k : Nat} (h : a + 2 ≤ b) (h2 : b < k + 1) : a < k := by omega
theorem mu_f (x : List Nat) (t : T) (h : x.length ≤ 40) : mu x t < FUEL := mu_lt h t
theorem mu_sk {x : List Nat} {t : T} {n : Nat} (h : mu x t + 2 ≤ n) : mu x (skip x FUEL 0 t).2 < n := Nat.lt_of_le_of_lt skip_mu h
theorem l1000 {n : Nat} (h : n ≤ 40) : n ≤ 1000 := Nat.le_trans h (by decide)
theorem len_s {k n : Nat} (h : k + 2 * (n + 1) ≤ 402) : k + 2 * n ≤ 402 := Nat.le_trans (Nat.add_le_add_left (Nat.mul_le_mul_left 2 (Nat.le_succ n)) k) h
/-- blanks are skipped, and the loop goes on -/
theorem GC.skip (G : GC P c' Q c l₀ a f x nF H₀ R) {tk : List Nat} {ty : Nat} {esc : Bool} {t : T} {l : List (N × V)} {H : Hp} (hT : TK H a f x nF .none t) (hk : Kp a f H₀ H) (hu : t.uch = none)
    (hm : mu x t + 2 ≤ n) (hl : tk.length + 2 * n ≤ 402) (hty : ty = 3 ∨ ty = 4) (he : loop x note n tk ty esc (skip x FUEL 0 t).2 = R) {K : V → St → Prop} (hK : ∀ v H', GP a f x nF note H₀ R n tk ty esc (skip x FUEL 0 t).2 H' → K v ⟨l, H'⟩) : CallI c' (.ref 256) [.ref a] [] [] ⟨l, H⟩ K :=
  ⟨skip_spec P G.r.K G.hK G.hc hT (l1000 G.hl) (mu_f x t G.hl) fun H' h1 h2 => hK _ _ (⟨h1, hk.trans h2, mu_sk hm, hl, skip_wf (wf_none hu), hty, he⟩)⟩
/-- what is not asked: the sign ends the word and is given back -/
theorem get_ung (G : GC P c' Q c l₀ a f x nF H₀ R) (g : GJ c' Q l₀ a f x nF H₀ R lead note sk n J) {tk ch : List Nat} {ty : Nat} {esc : Bool} {t : T} {H : Hp} (hT : TK H a f x nF .none t) (hk : Kp a f H₀ H) (hu : t.uch = none) (h : fin tk ty esc (ung t ch) = R)
    {K : V → St → Prop} (hK : ∀ v σ, J .brk σ → K v σ) : CallI c' (.ref 249) [.ref a, .str ch] [] [] ⟨GLc a lead note sk tk ty esc ch, H⟩ K :=
  ⟨ungc_spec P G.r.K G.hK (Cx.Calls.le G.hc (by decide)) hT hu fun H' h1 h2 => hK _ _ (g.bk _ (get_tail G h1 (hk.trans h2) h))⟩
theorem dec_in {q : Bool} {ch : List Nat} {ls : List (List Nat)} (e : dels q = ls) (h : ch ∈ dels q) : decide (ch ∈ ls) = true := by subst e; exact decide_eq_true h
theorem dec_ni {q : Bool} {ch : List Nat} {ls : List (List Nat)} (e : dels q = ls) (h : ¬ ch ∈ dels q) : decide (ch ∈ ls) = false := by subst e; exact decide_eq_false h
theorem str1 {tk : List Nat} {k n : Nat} (h : tk.length + 2 * (n + 1) ≤ 402) (hk : k ≤ 1) : tk.length + k ≤ 10000000 := by omega
theorem len1' {tk : List Nat} {ch : List Nat} {n : Nat} (h : tk.length + 2 * (n + 1) ≤ 402) (hk : ch.length ≤ 1) : (tk ++ ch).length + 2 * n ≤ 402 := by rw [List.length_append]; omega
theorem len2' {tk : List Nat} {ch : List Nat} {n : Nat} (h : tk.length + 2 * (n + 1) ≤ 402) (hk : ch.length ≤ 1) : (tk ++ [92] ++ ch).length + 2 * n ≤ 402 := by rw [List.length_append, List.length_append, List.length_singleton]; omega
theorem str2 {tk : List Nat} {ch : List Nat} {n : Nat} (h : tk.length + 2 * (n + 1) ≤ 402) (hk : ch.length ≤ 1) : (tk ++ [92]).length + ch.length ≤ 10000000 := by rw [List.length_append, List.length_singleton]; omega
noncomputable abbrev getE : B := ((((getM.s 0).b2.s 0).b2.s 0).b1)
theorem notT' {b : Bool} (h : ¬ b = false) : (!b) = false := by cases b <;> first | exact absurd rfl h | rfl
theorem ch10 {ch : List Nat} {q : Bool} (h0 : ¬ ch = []) (h : ¬ (ch = [10] ∧ q = false)) : ¬ (ch = [] ∨ (ch = [10] ∧ q = false)) := fun e => e.elim h0 h
/-- a backslash and what stands behind it -/
theorem get_esc (G : GC P c' Q c l₀ a f x nF H₀ R) (g : GJ c' Q l₀ a f x nF H₀ R lead note sk n J) {tk : List Nat} {ty : Nat} {esc : Bool} {t : T} {H : Hp} (hT : TK H a f x nF .none t) (hk : Kp a f H₀ H) (hu : t.uch = none)
    (hm : mu x t + 2 ≤ n) (hl : tk.length + 2 * (n + 1) ≤ 402) (hty : ty = 3 ∨ ty = 4) (hD : ¬ [92] ∈ dels t.q) (he : lp x note n tk ty esc ([92], t) = R) {K : Fl → St → Prop} (hK : ∀ σ, (getM.drop 1).v c' J σ → K .next σ) : getE.v c' K ⟨GLc a lead note sk tk ty esc [92], H⟩ := by
  rw [lp_esc fun h => h.elim (fun h => by cases h) hD] at he
  refine And.intro (str1 hl (Nat.le_refl _)) ?_
  (repeat (first | refine attI (by ((repeat refine (upd_ne (by first | assumption | exact Ne.symm (by assumption))).trans ?_); first | exact upd_same | assumption | exact TK.tok (by assumption) | exact TK.txt (by assumption))) ?_ | refine stoI (by ((repeat refine (upd_ne (by first | assumption | exact Ne.symm (by assumption))).trans ?_); first | exact upd_same | assumption | exact TK.tok (by assumption) | exact TK.txt (by assumption))) ?_ | refine metI (by ((repeat refine (upd_ne (by first | assumption | exact Ne.symm (by assumption))).trans ?_); first | exact upd_same | assumption | exact TK.tok (by assumption) | exact TK.txt (by assumption))) ?_))
  refine CallI.mk (getc_spec P G.r.K G.hK (Cx.Calls.le G.hc (by decide)) hT (l1000 G.hl) fun H2 hT2 hk2 => ?_)
  have hc1 : (getc x t).1.length ≤ 1 := getc_len (wf_none hu)
  have hc2 : mu x (getc x t).2 ≤ mu x t := getc_le
  have hc3 : (getc x t).2.uch = none := getc_uch
  by_cases h0 : (getc x t).1 = []
  · (conv => whnf)
    refine brT (decide_eq_true h0) ?_
    exact G.end (he.symm.trans (if_pos (.inl h0))) hT2 (hk.trans hk2)
  (conv => whnf)
  refine brF (decide_eq_false h0) ?_
  have more : ¬ ((getc x t).1 = [10] ∧ (getc x t).2.q = false) → K .next ⟨GLc a lead note sk (tk ++ [92]) ty true (getc x t).1, H2⟩ := fun h => by
    refine hK _ ?_
    refine And.intro (str2 hl hc1) ?_
    exact g.nx (tk ++ [92] ++ (getc x t).1) ty true _ _ H2 ⟨rfl, rfl, rfl, rfl, rfl, rfl, rfl, trivial⟩ ⟨hT2, hk.trans hk2, Nat.lt_of_le_of_lt hc2 (Nat.lt_of_succ_lt hm), len2' hl hc1, wf_none hc3, hty, (if_neg (ch10 h0 h)).symm.trans he⟩
  by_cases h10 : (getc x t).1 = [10]
  · (conv => whnf)
    refine brT (decide_eq_true h10) ?_
    (repeat (first | refine attI (by ((repeat refine (upd_ne (by first | assumption | exact Ne.symm (by assumption))).trans ?_); first | exact upd_same | assumption | exact TK.tok (by assumption) | exact TK.txt (by assumption))) ?_ | refine stoI (by ((repeat refine (upd_ne (by first | assumption | exact Ne.symm (by assumption))).trans ?_); first | exact upd_same | assumption | exact TK.tok (by assumption) | exact TK.txt (by assumption))) ?_ | refine metI (by ((repeat refine (upd_ne (by first | assumption | exact Ne.symm (by assumption))).trans ?_); first | exact upd_same | assumption | exact TK.tok (by assumption) | exact TK.txt (by assumption))) ?_))
    by_cases hq : (getc x t).2.q = false
    · (conv => whnf)
      refine brT (by rw [hq]; rfl) ?_
      exact G.end (he.symm.trans (if_pos (.inr ⟨h10, hq⟩))) hT2 (hk.trans hk2)
    · (conv => whnf)
      refine brF (notT' hq) ?_
      exact more fun h => hq h.2
  · (conv => whnf)
    refine brF (decide_eq_false h10) ?_
    exact more fun h => h10 h.1
/-- a sign that ends no word -/
theorem get_other (G : GC P c' Q c l₀ a f x nF H₀ R) (g : GJ c' Q l₀ a f x nF H₀ R lead note sk n J) {tk : List Nat} {m ty : Nat} {esc : Bool} {t : T} {H : Hp} (hT : TK H a f x nF .none t) (hk : Kp a f H₀ H) (hu : t.uch = none)
    (hm : mu x t + 2 ≤ n) (hl : tk.length + 2 * (n + 1) ≤ 402) (hty : ty = 3 ∨ ty = 4) (hD : ¬ [m] ∈ dels t.q) (he : lp x note n tk ty esc ([m], t) = R) : getM.v c' J ⟨GLc a lead note sk tk ty esc [m], H⟩ := by
  have hD' : ¬ ([m] = [] ∨ [m] ∈ dels t.q) := fun h => h.elim (fun h => by cases h) hD
  have more : ¬ (t.q = true ∧ [m] = [10]) → ¬ [m] = [92] → (getM.drop 1).v c' J ⟨GLc a lead note sk tk ty esc [m], H⟩ := fun h1 h2 => by
    refine And.intro (str1 hl (Nat.le_refl _)) ?_
    exact g.nx (tk ++ [m]) ty esc _ _ H ⟨rfl, rfl, rfl, rfl, rfl, rfl, rfl, trivial⟩ ⟨hT, hk, Nat.lt_of_succ_lt hm, len1' hl (Nat.le_refl _), wf_none hu, hty, (lp_more hD' h1 h2).symm.trans he⟩
  obtain ⟨at_, uch, ml, q, eof, cr, line⟩ := t
  cases q
  · (repeat (first | refine attI (by ((repeat refine (upd_ne (by first | assumption | exact Ne.symm (by assumption))).trans ?_); first | exact upd_same | assumption | exact TK.tok (by assumption) | exact TK.txt (by assumption))) ?_ | refine stoI (by ((repeat refine (upd_ne (by first | assumption | exact Ne.symm (by assumption))).trans ?_); first | exact upd_same | assumption | exact TK.tok (by assumption) | exact TK.txt (by assumption))) ?_ | refine metI (by ((repeat refine (upd_ne (by first | assumption | exact Ne.symm (by assumption))).trans ?_); first | exact upd_same | assumption | exact TK.tok (by assumption) | exact TK.txt (by assumption))) ?_))
    (conv => whnf)
    refine brF (dec_ni rfl hD) ?_
    (repeat (first | refine attI (by ((repeat refine (upd_ne (by first | assumption | exact Ne.symm (by assumption))).trans ?_); first | exact upd_same | assumption | exact TK.tok (by assumption) | exact TK.txt (by assumption))) ?_ | refine stoI (by ((repeat refine (upd_ne (by first | assumption | exact Ne.symm (by assumption))).trans ?_); first | exact upd_same | assumption | exact TK.tok (by assumption) | exact TK.txt (by assumption))) ?_ | refine metI (by ((repeat refine (upd_ne (by first | assumption | exact Ne.symm (by assumption))).trans ?_); first | exact upd_same | assumption | exact TK.tok (by assumption) | exact TK.txt (by assumption))) ?_))
    by_cases h92 : [m] = [92]
    · (conv => whnf)
      refine brT (decide_eq_true h92) ?_
      injection h92 with h92
      subst h92
      exact get_esc G g hT hk hu hm hl hty hD he fun _ q => q
    · (conv => whnf)
      refine brF (decide_eq_false h92) ?_
      exact more (fun h => by cases h.1) h92
  · (repeat (first | refine attI (by ((repeat refine (upd_ne (by first | assumption | exact Ne.symm (by assumption))).trans ?_); first | exact upd_same | assumption | exact TK.tok (by assumption) | exact TK.txt (by assumption))) ?_ | refine stoI (by ((repeat refine (upd_ne (by first | assumption | exact Ne.symm (by assumption))).trans ?_); first | exact upd_same | assumption | exact TK.tok (by assumption) | exact TK.txt (by assumption))) ?_ | refine metI (by ((repeat refine (upd_ne (by first | assumption | exact Ne.symm (by assumption))).trans ?_); first | exact upd_same | assumption | exact TK.tok (by assumption) | exact TK.txt (by assumption))) ?_))
    (conv => whnf)
    refine brF (dec_ni rfl hD) ?_
    (repeat (first | refine attI (by ((repeat refine (upd_ne (by first | assumption | exact Ne.symm (by assumption))).trans ?_); first | exact upd_same | assumption | exact TK.tok (by assumption) | exact TK.txt (by assumption))) ?_ | refine stoI (by ((repeat refine (upd_ne (by first | assumption | exact Ne.symm (by assumption))).trans ?_); first | exact upd_same | assumption | exact TK.tok (by assumption) | exact TK.txt (by assumption))) ?_ | refine metI (by ((repeat refine (upd_ne (by first | assumption | exact Ne.symm (by assumption))).trans ?_); first | exact upd_same | assumption | exact TK.tok (by assumption) | exact TK.txt (by assumption))) ?_))
    by_cases h10 : [m] = [10]
    · (conv => whnf)
      refine brT (decide_eq_true h10) ?_
      exact G.syn (he.symm.trans ((if_neg hD').trans (if_pos ⟨rfl, h10⟩))) hT hk
    (conv => whnf)
    refine brF (decide_eq_false h10) ?_
    by_cases h92 : [m] = [92]
    · (conv => whnf)
      refine brT (decide_eq_true h92) ?_
      injection h92 with h92
      subst h92
      exact get_esc G g hT hk hu hm hl hty hD he fun _ q => q
    · (conv => whnf)
      refine brF (decide_eq_false h92) ?_
      exact more (fun h => h10 h.2) h92
end

section
variable {P : Params} {c' : Cx} {Q : V → St → Prop} {l₀ : List (N × V)} {a f : Addr} {x nF : List Nat} {H₀ : Hp} {R : Rs × T} {lead note : Bool} {sk : Int} {n : Nat} {J : Fl → St → Prop}
theorem comm_stop {x : List Nat} {n : Nat} {tk : List Nat} {t : T} (h : (getc x t).1 = [10] ∨ (getc x t).1 = []) : comm x (n + 1) tk t = (tk, (getc x t).1, (getc x t).2) := if_pos h
theorem comm_go {x : List Nat} {n : Nat} {tk : List Nat} {t : T} (h : ¬ ((getc x t).1 = [10] ∨ (getc x t).1 = [])) : comm x (n + 1) tk t = comm x n (tk ++ (getc x t).1) (getc x t).2 := if_neg h
noncomputable abbrev getC : B := ((((((getM.s 0).b1.s 1).b1.s 0).b2.s 0).b2.s 0).b2.s 0).b2.s 0 |>.b1
/-- what a comment's end gives -/
noncomputable def cmR (x : List Nat) (note : Bool) (n : Nat) (esc : Bool) (m : List Nat × List Nat × T) : Rs × T :=
  if note then (.tok 5 m.1 false none, ung m.2.2 m.2.1)
  else if m.2.1 = [] then (if m.2.2.ml ≠ 0 then (.synt, m.2.2) else (.tok 0 [] false (some m.1), m.2.2))
  else if m.2.2.ml ≠ 0 then loop x note n [] 3 esc (skip x FUEL 0 m.2.2).2
  else (.tok 1 [10] false (some m.1), m.2.2)
/-- behind a comment -/
theorem get_cmt2 (G : GC P c' Q c l₀ a f x nF H₀ R) (g : GJ c' Q l₀ a f x nF H₀ R lead note sk n J) {tk ch : List Nat} {esc : Bool} {t : T} {H : Hp} (hT : TK H a f x nF .none t) (hk : Kp a f H₀ H) (hu : t.uch = none)
    (hm : mu x t + 2 ≤ n) (hl : 2 * (n + 1) ≤ 402) (hch : ch = [10] ∨ ch = []) (he : cmR x note n esc (tk, ch, t) = R) {K : Fl → St → Prop} (hKc : ∀ σ, J .cont σ → K .cont σ) (hKr : ∀ v σ, J (.ret v) σ → K (.ret v) σ) :
    (getC.drop 1).v c' K ⟨GLc a lead note sk tk 3 esc ch, H⟩ := by
  cases note with
  | true =>
    (repeat (first | refine attI (by ((repeat refine (upd_ne (by first | assumption | exact Ne.symm (by assumption))).trans ?_); first | exact upd_same | assumption | exact TK.tok (by assumption) | exact TK.txt (by assumption))) ?_ | refine stoI (by ((repeat refine (upd_ne (by first | assumption | exact Ne.symm (by assumption))).trans ?_); first | exact upd_same | assumption | exact TK.tok (by assumption) | exact TK.txt (by assumption))) ?_ | refine metI (by ((repeat refine (upd_ne (by first | assumption | exact Ne.symm (by assumption))).trans ?_); first | exact upd_same | assumption | exact TK.tok (by assumption) | exact TK.txt (by assumption))) ?_))
    refine CallI.mk (ungc_spec P G.r.K G.hK (Cx.Calls.le G.hc (by decide)) hT hu fun H' h1 h2 => ?_)
    exact G.tok (com := none) he.symm h1 (hk.trans h2) (in1 P) fun v σ q => hKr _ _ (g.rt v σ q)
  | false =>
    rcases hch with rfl | rfl
    · have he : (if t.ml ≠ 0 then loop x false n [] 3 esc (skip x FUEL 0 t).2 else (.tok 1 [10] false (some tk), t)) = R := he
      (repeat (first | refine attI (by ((repeat refine (upd_ne (by first | assumption | exact Ne.symm (by assumption))).trans ?_); first | exact upd_same | assumption | exact TK.tok (by assumption) | exact TK.txt (by assumption))) ?_ | refine stoI (by ((repeat refine (upd_ne (by first | assumption | exact Ne.symm (by assumption))).trans ?_); first | exact upd_same | assumption | exact TK.tok (by assumption) | exact TK.txt (by assumption))) ?_ | refine metI (by ((repeat refine (upd_ne (by first | assumption | exact Ne.symm (by assumption))).trans ?_); first | exact upd_same | assumption | exact TK.tok (by assumption) | exact TK.txt (by assumption))) ?_))
      by_cases h0 : t.ml = 0
      · (conv => whnf)
        refine brF (ml0 h0) ?_
        exact G.tok (val := [10]) (com := some tk) (he.symm.trans (if_neg fun q => q h0)) hT hk (in3 P) fun v σ q => hKr _ _ (g.rt v σ q)
      · (conv => whnf)
        refine brT (ml1 h0) ?_
        (repeat (first | refine attI (by ((repeat refine (upd_ne (by first | assumption | exact Ne.symm (by assumption))).trans ?_); first | exact upd_same | assumption | exact TK.tok (by assumption) | exact TK.txt (by assumption))) ?_ | refine stoI (by ((repeat refine (upd_ne (by first | assumption | exact Ne.symm (by assumption))).trans ?_); first | exact upd_same | assumption | exact TK.tok (by assumption) | exact TK.txt (by assumption))) ?_ | refine metI (by ((repeat refine (upd_ne (by first | assumption | exact Ne.symm (by assumption))).trans ?_); first | exact upd_same | assumption | exact TK.tok (by assumption) | exact TK.txt (by assumption))) ?_))
        exact G.skip (tk := []) (ty := 3) (esc := esc) (l := GLc a lead false sk tk 3 esc [10]) hT hk hu hm (Nat.le_trans (len_s (k := 0) (Nat.le_trans (Nat.le_of_eq (Nat.zero_add _)) hl)) (Nat.le_refl _)) (.inl rfl) ((if_pos h0).symm.trans he) fun _ H' q => hKc _ (g.ct _ _ _ _ _ H' ⟨rfl, rfl, rfl, rfl, rfl, rfl, rfl, trivial⟩ q)
    · have he : (if t.ml ≠ 0 then (.synt, t) else (.tok 0 [] false (some tk), t)) = R := he
      (repeat (first | refine attI (by ((repeat refine (upd_ne (by first | assumption | exact Ne.symm (by assumption))).trans ?_); first | exact upd_same | assumption | exact TK.tok (by assumption) | exact TK.txt (by assumption))) ?_ | refine stoI (by ((repeat refine (upd_ne (by first | assumption | exact Ne.symm (by assumption))).trans ?_); first | exact upd_same | assumption | exact TK.tok (by assumption) | exact TK.txt (by assumption))) ?_ | refine metI (by ((repeat refine (upd_ne (by first | assumption | exact Ne.symm (by assumption))).trans ?_); first | exact upd_same | assumption | exact TK.tok (by assumption) | exact TK.txt (by assumption))) ?_))
      by_cases h0 : t.ml = 0
      · (conv => whnf)
        refine brF (ml0 h0) ?_
        exact G.tok (val := []) (com := some tk) (he.symm.trans (if_neg fun q => q h0)) hT hk (in2 P) fun v σ q => hKr _ _ (g.rt v σ q)
      · (conv => whnf)
        refine brT (ml1 h0) ?_
        exact G.syn (he.symm.trans (if_pos h0)) hT hk
theorem get_cmt (G : GC P c' Q c l₀ a f x nF H₀ R) (g : GJ c' Q l₀ a f x nF H₀ R lead note sk n J) {ch : List Nat} {esc : Bool} {t : T} {H : Hp} (hT : TK H a f x nF .none t) (hk : Kp a f H₀ H) (hu : t.uch = none)
    (hm : mu x t + 2 ≤ n) (hl : 2 * (n + 1) ≤ 402) (he : cmR x note n esc (comm x FUEL [] t) = R) {K : Fl → St → Prop} (hKc : ∀ σ, J .cont σ → K .cont σ) (hKr : ∀ v σ, J (.ret v) σ → K (.ret v) σ) :
    getC.v c' K ⟨GLc a lead note sk [] 3 esc ch, H⟩ := by
  have hu2 := comm_uch (x := x) (F := FUEL) (tk := []) hu
  have hm2 : mu x (comm x FUEL [] t).2.2 + 2 ≤ n := Nat.le_trans (Nat.add_le_add_right comm_mu 2) hm
  refine RunI.whl (G := List Nat × T) G.r (by decide +kernel) (fun g => GL a lead note sk g.1 3 esc) (fun k g H' => TK H' a f x nF .none g.2 ∧ Kp a f H₀ H' ∧ mu x g.2 < k ∧ g.1.length + 2 * k ≤ 402 ∧ Wf g.2 ∧ comm x k g.1 g.2 = comm x FUEL [] t) FUEL ([], t)
    ⟨rfl, rfl, rfl, rfl, rfl, rfl, rfl, trivial⟩ ⟨hT, hk, mu_f x t G.hl, Nat.le_of_ble_eq_true rfl, wf_none hu, rfl⟩ ?_
  intro k q H1 hP J1 T1 hN _ hB _ _
  obtain _ | k := k
  · exact absurd hP.2.2.1 (Nat.not_lt_zero _)
  have hT1 := hP.1
  (repeat (first | refine attI (by ((repeat refine (upd_ne (by first | assumption | exact Ne.symm (by assumption))).trans ?_); first | exact upd_same | assumption | exact TK.tok (by assumption) | exact TK.txt (by assumption))) ?_ | refine stoI (by ((repeat refine (upd_ne (by first | assumption | exact Ne.symm (by assumption))).trans ?_); first | exact upd_same | assumption | exact TK.tok (by assumption) | exact TK.txt (by assumption))) ?_ | refine metI (by ((repeat refine (upd_ne (by first | assumption | exact Ne.symm (by assumption))).trans ?_); first | exact upd_same | assumption | exact TK.tok (by assumption) | exact TK.txt (by assumption))) ?_))
  refine CallI.mk (getc_spec P G.r.K G.hK (Cx.Calls.le G.hc (by decide)) hT1 (l1000 G.hl) fun H2 hT2 hk2 => ?_)
  have stop : ∀ ch, (getc x q.2).1 = ch → ch = [10] ∨ ch = [] → J1 .brk ⟨GLc a lead note sk q.1 3 esc ch, H2⟩ := fun ch e hc => by
    subst e
    refine hB _ ?_
    have e := (comm_stop hc).symm.trans hP.2.2.2.2.2
    rw [← e] at he hu2 hm2
    exact get_cmt2 G g hT2 (hP.2.1.trans hk2) hu2 hm2 hl hc he hKc hKr
  by_cases h10 : (getc x q.2).1 = [10]
  · (conv => whnf)
    refine brT (decide_eq_true h10) ?_
    exact stop _ rfl (.inl h10)
  (conv => whnf)
  refine brF (decide_eq_false h10) ?_
  by_cases h0 : (getc x q.2).1 = []
  · (conv => whnf)
    refine brT (decide_eq_true h0) ?_
    exact stop _ rfl (.inr h0)
  (conv => whnf)
  refine brF (decide_eq_false h0) ?_
  refine And.intro (str1 hP.2.2.2.1 (getc_len hP.2.2.2.2.1)) ?_
  exact hN k (q.1 ++ (getc x q.2).1, (getc x q.2).2) _ H2 (Nat.lt_succ_self k) ⟨rfl, rfl, rfl, rfl, rfl, rfl, rfl, trivial⟩
    ⟨hT2, hP.2.1.trans hk2, mu_dn (getc_mu h0) hP.2.2.1, len1' hP.2.2.2.1 (getc_len hP.2.2.2.2.1), wf_none getc_uch, (comm_go fun h => h.elim h10 h0).symm.trans hP.2.2.2.2.2⟩
end

section
variable {P : Params} {c' : Cx} {Q : V → St → Prop} {l₀ : List (N × V)} {a f : Addr} {x nF : List Nat} {H₀ : Hp} {R : Rs × T} {lead note : Bool} {sk : Int} {n : Nat} {J : Fl → St → Prop}
noncomputable abbrev getD : B := ((getM.s 0).b1.s 1).b1
theorem tokI {f : Addr} {nF : List Nat} {u : V} {at_ ml : Nat} {uch : Option (List Nat)} {q eof cr : Bool} {line : Nat} {i : Int} (h : i = (ml : Int)) :
    some (O.inst 451 [(.kfile, .ref f), (.kungotten_char, uchV uch), (.kungotten_token, u), (.kmultiline, .int i), (.kquoting, .bool q), (.keof, .bool eof), (.kafter_cr, .bool cr), (.kdelimiters, .tup ((dels q).map .str)), (.kline_number, .int line), (.kfilename, .str nF)]) =
    some (.inst 451 (tokFs f ⟨at_, uch, ml, q, eof, cr, line⟩ u nF)) := by subst h; rfl
theorem leF {n : Nat} (h : ¬ n = 0) : ¬ (n : Int) ≤ 0 := fun e => h (Nat.le_zero.mp (Int.ofNat_le.mp e))
theorem leT {n : Nat} (h : n = 0) : (n : Int) ≤ 0 := by subst h; exact Int.le_refl _
theorem pred_c {n : Nat} (h : ¬ n = 0) : (n : Int) - 1 = ((n - 1 : Nat) : Int) := by omega
theorem nil_of {tk : List Nat} {ty : Nat} (h : tk = [] ∧ ty ≠ 4) (hty : ty = 3 ∨ ty = 4) : tk = [] ∧ ty = 3 := ⟨h.1, hty.resolve_right h.2⟩
theorem eq92 {m k : Nat} (h : [m] = [k]) : m = k := by injection h
theorem ne59 {m : Nat} (hD : [m] ∈ dels false) (h40 : ¬ [m] = [40]) (h41 : ¬ [m] = [41]) (h34 : ¬ [m] = [34]) (h10 : ¬ [m] = [10]) (h59 : ¬ [m] = [59]) : [m] = [32] ∨ [m] = [9] := by
  simp only [dels, DEL, Bool.false_eq_true, if_false, List.mem_cons, List.not_mem_nil, or_false] at hD
  rcases hD with h | h | h | h | h | h | h
  · exact .inl h
  · exact .inr h
  · exact absurd h h10
  · exact absurd h h59
  · exact absurd h h40
  · exact absurd h h41
  · exact absurd h h34
/-- a sign at a word's begin that stands for itself -/
theorem get_del (G : GC P c' Q c l₀ a f x nF H₀ R) (g : GJ c' Q l₀ a f x nF H₀ R lead note sk n J) {m : Nat} {esc : Bool} {t : T} {H : Hp} (hT : TK H a f x nF .none t) (hk : Kp a f H₀ H) (hu : t.uch = none)
    (hm : mu x t + 2 ≤ n) (hl : 2 * (n + 1) ≤ 402) (hD : [m] ∈ dels t.q) (he : lp x note n [] 3 esc ([m], t) = R) {K : Fl → St → Prop} (hKn : ∀ σ, J .brk σ → K .next σ) (hKc : ∀ σ, J .cont σ → K .cont σ) (hKr : ∀ v σ, J (.ret v) σ → K (.ret v) σ) :
    getD.v c' K ⟨GLc a lead note sk [] 3 esc [m], H⟩ := by
  obtain ⟨at_, uch, ml, q, eof, cr, line⟩ := t
  obtain rfl : uch = none := hu
  have hfa := Ne.symm hT.ne
  have hn : 2 * n ≤ 402 := Nat.le_trans (Nat.mul_le_mul_left 2 (Nat.le_succ n)) hl
  have hl0 : ([] : List Nat).length + 2 * n ≤ 402 := Nat.le_trans (Nat.le_of_eq (Nat.zero_add _)) hn
  have go : ∀ {tk : List Nat} {ty : Nat} {t : T} (l : List (N × V)) (H' : Hp), subL l (GL a lead note sk tk ty esc) → GP a f x nF note H₀ R n tk ty esc t H' → K .cont ⟨l, H'⟩ := fun l H' h1 h2 => hKc _ (g.ct _ _ _ _ l H' h1 h2)
  by_cases h40 : [m] = [40]
  · (conv => whnf)
    refine brT (decide_eq_true h40) ?_
    obtain rfl := eq92 h40
    have hq : q = false := by cases q; rfl; simp [dels, QDEL] at hD
    subst hq
    (repeat (first | refine attI (by ((repeat refine (upd_ne (by first | assumption | exact Ne.symm (by assumption))).trans ?_); first | exact upd_same | assumption | exact TK.tok (by assumption) | exact TK.txt (by assumption))) ?_ | refine stoI (by ((repeat refine (upd_ne (by first | assumption | exact Ne.symm (by assumption))).trans ?_); first | exact upd_same | assumption | exact TK.tok (by assumption) | exact TK.txt (by assumption))) ?_ | refine metI (by ((repeat refine (upd_ne (by first | assumption | exact Ne.symm (by assumption))).trans ?_); first | exact upd_same | assumption | exact TK.tok (by assumption) | exact TK.txt (by assumption))) ?_))
    exact G.skip (t := ⟨at_, none, ml + 1, false, eof, cr, line⟩) (tk := []) (ty := 3) (esc := esc) (n := n) ⟨upd_same, (upd_ne hfa).trans hT.txt⟩ hk.a rfl hm hl0 (.inl rfl) he fun _ H' q => go _ H' ⟨rfl, rfl, rfl, rfl, rfl, rfl, rfl, trivial⟩ q
  (conv => whnf)
  refine brF (decide_eq_false h40) ?_
  by_cases h41 : [m] = [41]
  · (conv => whnf)
    refine brT (decide_eq_true h41) ?_
    obtain rfl := eq92 h41
    have hq : q = false := by cases q; rfl; simp [dels, QDEL] at hD
    subst hq
    have he : (if ml = 0 then (.synt, ⟨at_, none, ml, false, eof, cr, line⟩) else loop x note n [] 3 esc (skip x FUEL 0 ⟨at_, none, ml - 1, false, eof, cr, line⟩).2) = R := he
    (repeat (first | refine attI (by ((repeat refine (upd_ne (by first | assumption | exact Ne.symm (by assumption))).trans ?_); first | exact upd_same | assumption | exact TK.tok (by assumption) | exact TK.txt (by assumption))) ?_ | refine stoI (by ((repeat refine (upd_ne (by first | assumption | exact Ne.symm (by assumption))).trans ?_); first | exact upd_same | assumption | exact TK.tok (by assumption) | exact TK.txt (by assumption))) ?_ | refine metI (by ((repeat refine (upd_ne (by first | assumption | exact Ne.symm (by assumption))).trans ?_); first | exact upd_same | assumption | exact TK.tok (by assumption) | exact TK.txt (by assumption))) ?_))
    by_cases h0 : ml = 0
    · (conv => whnf)
      refine brT (decide_eq_true (leT h0)) ?_
      exact G.syn (he.symm.trans (if_pos h0)) hT hk
    · (conv => whnf)
      refine brF (decide_eq_false (leF h0)) ?_
      (repeat (first | refine attI (by ((repeat refine (upd_ne (by first | assumption | exact Ne.symm (by assumption))).trans ?_); first | exact upd_same | assumption | exact TK.tok (by assumption) | exact TK.txt (by assumption))) ?_ | refine stoI (by ((repeat refine (upd_ne (by first | assumption | exact Ne.symm (by assumption))).trans ?_); first | exact upd_same | assumption | exact TK.tok (by assumption) | exact TK.txt (by assumption))) ?_ | refine metI (by ((repeat refine (upd_ne (by first | assumption | exact Ne.symm (by assumption))).trans ?_); first | exact upd_same | assumption | exact TK.tok (by assumption) | exact TK.txt (by assumption))) ?_))
      exact G.skip (t := ⟨at_, none, ml - 1, false, eof, cr, line⟩) (tk := []) (ty := 3) (esc := esc) (n := n) ⟨upd_same.trans (tokI (pred_c h0)), (upd_ne hfa).trans hT.txt⟩ hk.a rfl hm hl0 (.inl rfl) ((if_neg h0).symm.trans he) fun _ H' q => go _ H' ⟨rfl, rfl, rfl, rfl, rfl, rfl, rfl, trivial⟩ q
  (conv => whnf)
  refine brF (decide_eq_false h41) ?_
  by_cases h34 : [m] = [34]
  · (conv => whnf)
    refine brT (decide_eq_true h34) ?_
    obtain rfl := eq92 h34
    cases q
    · (repeat (first | refine attI (by ((repeat refine (upd_ne (by first | assumption | exact Ne.symm (by assumption))).trans ?_); first | exact upd_same | assumption | exact TK.tok (by assumption) | exact TK.txt (by assumption))) ?_ | refine stoI (by ((repeat refine (upd_ne (by first | assumption | exact Ne.symm (by assumption))).trans ?_); first | exact upd_same | assumption | exact TK.tok (by assumption) | exact TK.txt (by assumption))) ?_ | refine metI (by ((repeat refine (upd_ne (by first | assumption | exact Ne.symm (by assumption))).trans ?_); first | exact upd_same | assumption | exact TK.tok (by assumption) | exact TK.txt (by assumption))) ?_))
      exact go (tk := []) (ty := 4) (t := ⟨at_, none, ml, true, eof, cr, line⟩) _ _ ⟨rfl, rfl, rfl, rfl, rfl, rfl, rfl, trivial⟩ ⟨⟨upd_same, (upd_ne hfa).trans ((upd_ne hfa).trans hT.txt)⟩, hk.a.a, Nat.lt_of_succ_lt hm, hl0, wf_none rfl, .inr rfl, he⟩
    · (repeat (first | refine attI (by ((repeat refine (upd_ne (by first | assumption | exact Ne.symm (by assumption))).trans ?_); first | exact upd_same | assumption | exact TK.tok (by assumption) | exact TK.txt (by assumption))) ?_ | refine stoI (by ((repeat refine (upd_ne (by first | assumption | exact Ne.symm (by assumption))).trans ?_); first | exact upd_same | assumption | exact TK.tok (by assumption) | exact TK.txt (by assumption))) ?_ | refine metI (by ((repeat refine (upd_ne (by first | assumption | exact Ne.symm (by assumption))).trans ?_); first | exact upd_same | assumption | exact TK.tok (by assumption) | exact TK.txt (by assumption))) ?_))
      exact G.skip (t := ⟨at_, none, ml, false, eof, cr, line⟩) (tk := []) (ty := 3) (esc := esc) (n := n) ⟨upd_same, (upd_ne hfa).trans ((upd_ne hfa).trans hT.txt)⟩ hk.a.a rfl hm hl0 (.inl rfl) he fun _ H' q => go _ H' ⟨rfl, rfl, rfl, rfl, rfl, rfl, rfl, trivial⟩ q
  (conv => whnf)
  refine brF (decide_eq_false h34) ?_
  have hq : q = false := by cases q; rfl; exact absurd (by simpa [dels, QDEL] using hD) h34
  subst hq
  by_cases h10 : [m] = [10]
  · (conv => whnf)
    refine brT (decide_eq_true h10) ?_
    obtain rfl := eq92 h10
    exact G.tok (val := [10]) (com := none) he.symm hT hk (in1 P) fun v σ q => hKr _ _ (g.rt v σ q)
  (conv => whnf)
  refine brF (decide_eq_false h10) ?_
  by_cases h59 : [m] = [59]
  · (conv => whnf)
    refine brT (decide_eq_true h59) ?_
    obtain rfl := eq92 h59
    exact get_cmt G g hT hk rfl hm hl he (fun σ q => hKc σ q) fun v σ q => hKr v σ q
  (conv => whnf)
  refine brF (decide_eq_false h59) ?_
  refine hKn _ (g.bk _ (get_tail G hT hk (tk := [m]) (ty := 6) ?_))
  rcases ne59 hD h40 h41 h34 h10 h59 with h | h <;> (obtain rfl := eq92 h; exact he)
/-- one round of the loop, the sign being read -/
theorem get_mid (G : GC P c' Q c l₀ a f x nF H₀ R) (g : GJ c' Q l₀ a f x nF H₀ R lead note sk n J) {tk ch : List Nat} {ty : Nat} {esc : Bool} {t : T} {H : Hp} (hT : TK H a f x nF .none t) (hk : Kp a f H₀ H) (hu : t.uch = none)
    (hc1 : ch.length ≤ 1) (hm : ch ≠ [] → mu x t + 2 ≤ n) (hl : tk.length + 2 * (n + 1) ≤ 402) (hty : ty = 3 ∨ ty = 4) (he : lp x note n tk ty esc (ch, t) = R) : getM.v c' J ⟨GLc a lead note sk tk ty esc ch, H⟩ := by
  match ch, hc1 with
  | [], _ =>
    obtain ⟨at_, uch, ml, q, eof, cr, line⟩ := t
    obtain rfl : uch = none := hu
    cases q
    · by_cases h3 : tk = [] ∧ ty ≠ 4
      · obtain ⟨rfl, rfl⟩ := nil_of h3 hty
        (repeat (first | refine attI (by ((repeat refine (upd_ne (by first | assumption | exact Ne.symm (by assumption))).trans ?_); first | exact upd_same | assumption | exact TK.tok (by assumption) | exact TK.txt (by assumption))) ?_ | refine stoI (by ((repeat refine (upd_ne (by first | assumption | exact Ne.symm (by assumption))).trans ?_); first | exact upd_same | assumption | exact TK.tok (by assumption) | exact TK.txt (by assumption))) ?_ | refine metI (by ((repeat refine (upd_ne (by first | assumption | exact Ne.symm (by assumption))).trans ?_); first | exact upd_same | assumption | exact TK.tok (by assumption) | exact TK.txt (by assumption))) ?_))
        exact g.bk _ (get_tail G hT hk (tk := []) (ty := 6) he)
      · have he := (lp_ung (.inl rfl) (fun h => by cases h.2) h3).symm.trans he
        cases tk with
        | nil =>
          obtain rfl : ty = 4 := hty.resolve_left fun e => h3 ⟨rfl, by rw [e]; decide⟩
          (repeat (first | refine attI (by ((repeat refine (upd_ne (by first | assumption | exact Ne.symm (by assumption))).trans ?_); first | exact upd_same | assumption | exact TK.tok (by assumption) | exact TK.txt (by assumption))) ?_ | refine stoI (by ((repeat refine (upd_ne (by first | assumption | exact Ne.symm (by assumption))).trans ?_); first | exact upd_same | assumption | exact TK.tok (by assumption) | exact TK.txt (by assumption))) ?_ | refine metI (by ((repeat refine (upd_ne (by first | assumption | exact Ne.symm (by assumption))).trans ?_); first | exact upd_same | assumption | exact TK.tok (by assumption) | exact TK.txt (by assumption))) ?_))
          exact get_ung G g hT hk rfl he fun _ σ q => q
        | cons b tr =>
          (repeat (first | refine attI (by ((repeat refine (upd_ne (by first | assumption | exact Ne.symm (by assumption))).trans ?_); first | exact upd_same | assumption | exact TK.tok (by assumption) | exact TK.txt (by assumption))) ?_ | refine stoI (by ((repeat refine (upd_ne (by first | assumption | exact Ne.symm (by assumption))).trans ?_); first | exact upd_same | assumption | exact TK.tok (by assumption) | exact TK.txt (by assumption))) ?_ | refine metI (by ((repeat refine (upd_ne (by first | assumption | exact Ne.symm (by assumption))).trans ?_); first | exact upd_same | assumption | exact TK.tok (by assumption) | exact TK.txt (by assumption))) ?_))
          exact get_ung G g hT hk rfl he fun _ σ q => q
    · (repeat (first | refine attI (by ((repeat refine (upd_ne (by first | assumption | exact Ne.symm (by assumption))).trans ?_); first | exact upd_same | assumption | exact TK.tok (by assumption) | exact TK.txt (by assumption))) ?_ | refine stoI (by ((repeat refine (upd_ne (by first | assumption | exact Ne.symm (by assumption))).trans ?_); first | exact upd_same | assumption | exact TK.tok (by assumption) | exact TK.txt (by assumption))) ?_ | refine metI (by ((repeat refine (upd_ne (by first | assumption | exact Ne.symm (by assumption))).trans ?_); first | exact upd_same | assumption | exact TK.tok (by assumption) | exact TK.txt (by assumption))) ?_))
      exact G.end he.symm hT hk
  | [m], _ =>
    by_cases hD : [m] ∈ dels t.q
    · obtain ⟨at_, uch, ml, q, eof, cr, line⟩ := t
      have br : ∀ q', q = q' → getM.v c' J ⟨GLc a lead note sk tk ty esc [m], H⟩ := fun q' hq => by
        by_cases h3 : tk = [] ∧ ty ≠ 4
        · obtain ⟨rfl, rfl⟩ := nil_of h3 hty
          cases q' <;>
          · subst hq
            (repeat (first | refine attI (by ((repeat refine (upd_ne (by first | assumption | exact Ne.symm (by assumption))).trans ?_); first | exact upd_same | assumption | exact TK.tok (by assumption) | exact TK.txt (by assumption))) ?_ | refine stoI (by ((repeat refine (upd_ne (by first | assumption | exact Ne.symm (by assumption))).trans ?_); first | exact upd_same | assumption | exact TK.tok (by assumption) | exact TK.txt (by assumption))) ?_ | refine metI (by ((repeat refine (upd_ne (by first | assumption | exact Ne.symm (by assumption))).trans ?_); first | exact upd_same | assumption | exact TK.tok (by assumption) | exact TK.txt (by assumption))) ?_))
            (conv => whnf)
            refine brT (dec_in rfl hD) ?_
            exact get_del G g hT hk hu (hm (by simp)) (Nat.le_trans (Nat.le_of_eq (Nat.zero_add _).symm) hl) hD he (fun _ q => q) (fun _ q => q) fun _ _ q => q
        · have he := (lp_ung (.inr hD) (fun h => by cases h.1) h3).symm.trans he
          cases tk with
          | nil =>
            obtain rfl : ty = 4 := hty.resolve_left fun e => h3 ⟨rfl, by rw [e]; decide⟩
            cases q' <;>
            · subst hq
              (repeat (first | refine attI (by ((repeat refine (upd_ne (by first | assumption | exact Ne.symm (by assumption))).trans ?_); first | exact upd_same | assumption | exact TK.tok (by assumption) | exact TK.txt (by assumption))) ?_ | refine stoI (by ((repeat refine (upd_ne (by first | assumption | exact Ne.symm (by assumption))).trans ?_); first | exact upd_same | assumption | exact TK.tok (by assumption) | exact TK.txt (by assumption))) ?_ | refine metI (by ((repeat refine (upd_ne (by first | assumption | exact Ne.symm (by assumption))).trans ?_); first | exact upd_same | assumption | exact TK.tok (by assumption) | exact TK.txt (by assumption))) ?_))
              (conv => whnf)
              refine brT (dec_in rfl hD) ?_
              (repeat (first | refine attI (by ((repeat refine (upd_ne (by first | assumption | exact Ne.symm (by assumption))).trans ?_); first | exact upd_same | assumption | exact TK.tok (by assumption) | exact TK.txt (by assumption))) ?_ | refine stoI (by ((repeat refine (upd_ne (by first | assumption | exact Ne.symm (by assumption))).trans ?_); first | exact upd_same | assumption | exact TK.tok (by assumption) | exact TK.txt (by assumption))) ?_ | refine metI (by ((repeat refine (upd_ne (by first | assumption | exact Ne.symm (by assumption))).trans ?_); first | exact upd_same | assumption | exact TK.tok (by assumption) | exact TK.txt (by assumption))) ?_))
              exact get_ung G g hT hk hu he fun _ σ q => q
          | cons b tr =>
            cases q' <;>
            · subst hq
              (repeat (first | refine attI (by ((repeat refine (upd_ne (by first | assumption | exact Ne.symm (by assumption))).trans ?_); first | exact upd_same | assumption | exact TK.tok (by assumption) | exact TK.txt (by assumption))) ?_ | refine stoI (by ((repeat refine (upd_ne (by first | assumption | exact Ne.symm (by assumption))).trans ?_); first | exact upd_same | assumption | exact TK.tok (by assumption) | exact TK.txt (by assumption))) ?_ | refine metI (by ((repeat refine (upd_ne (by first | assumption | exact Ne.symm (by assumption))).trans ?_); first | exact upd_same | assumption | exact TK.tok (by assumption) | exact TK.txt (by assumption))) ?_))
              (conv => whnf)
              refine brT (dec_in rfl hD) ?_
              (repeat (first | refine attI (by ((repeat refine (upd_ne (by first | assumption | exact Ne.symm (by assumption))).trans ?_); first | exact upd_same | assumption | exact TK.tok (by assumption) | exact TK.txt (by assumption))) ?_ | refine stoI (by ((repeat refine (upd_ne (by first | assumption | exact Ne.symm (by assumption))).trans ?_); first | exact upd_same | assumption | exact TK.tok (by assumption) | exact TK.txt (by assumption))) ?_ | refine metI (by ((repeat refine (upd_ne (by first | assumption | exact Ne.symm (by assumption))).trans ?_); first | exact upd_same | assumption | exact TK.tok (by assumption) | exact TK.txt (by assumption))) ?_))
              exact get_ung G g hT hk hu he fun _ σ q => q
      exact br q rfl
    · exact get_other G g hT hk hu (hm (by simp)) hl hty hD he
end

section
variable {P : Params} {c' : Cx} {Q : V → St → Prop} {l₀ : List (N × V)} {a f : Addr} {x nF : List Nat} {lead note : Bool}
theorem getK.cong {H H' : Hp} {r : Rs × T} (k : Kp a f H H') (h : getK c l₀ H Q a f x nF r) : getK c l₀ H' Q a f x nF r := by
  obtain ⟨r, t⟩ := r
  cases r with
  | tok ty val esc com => exact fun b H2 h1 h2 h3 => h b H2 h1 h2 (k.trans h3)
  | synt => exact fun H2 h2 h3 => h H2 h2 (k.trans h3)
  | ended => exact fun H2 h2 h3 => h H2 h2 (k.trans h3)
theorem getP_s {x : List Nat} {note : Bool} {t : T} (h : 0 < (skip x FUEL 0 t).1) : getP x true note t = (.tok 2 [32] false none, (skip x FUEL 0 t).2) := if_pos ⟨rfl, h⟩
theorem getP_l {x : List Nat} {lead note : Bool} {t : T} (h : ¬ (lead = true ∧ 0 < (skip x FUEL 0 t).1)) : getP x lead note t = loop x note FUEL [] 3 false (skip x FUEL 0 t).2 := if_neg h
theorem gt0 {n : Nat} (h : 0 < n) : (0 : Int) < (n : Int) := Int.ofNat_lt.mpr h
theorem gt0' {n : Nat} (h : ¬ 0 < n) : ¬ (0 : Int) < (n : Int) := fun e => h (Int.ofNat_lt.mp e)
/-- a sign is read -/
theorem get_rd (r : Rdy c' getN) (hK : c'.K = KK P) (hc : c'.Calls 3) {H2 : Hp} {tk : List Nat} {ty : Nat} {esc : Bool} {sk : Int} {t : T} (hT2 : TK H2 a f x nF .none t) (hl : x.length ≤ 40) {M : St → Prop} {J : Fl → St → Prop}
   (key : ∀ H3, TK H3 a f x nF .none (getc x t).2 → Kp a f H2 H3 → M ⟨GLc a lead note sk tk ty esc (getc x t).1, H3⟩) : S.v c' (getL.s 0) (seqV M J) ⟨GL a lead note sk tk ty esc, H2⟩ := by
  (repeat (first | refine attI (by ((repeat refine (upd_ne (by first | assumption | exact Ne.symm (by assumption))).trans ?_); first | exact upd_same | assumption | exact TK.tok (by assumption) | exact TK.txt (by assumption))) ?_ | refine stoI (by ((repeat refine (upd_ne (by first | assumption | exact Ne.symm (by assumption))).trans ?_); first | exact upd_same | assumption | exact TK.tok (by assumption) | exact TK.txt (by assumption))) ?_ | refine metI (by ((repeat refine (upd_ne (by first | assumption | exact Ne.symm (by assumption))).trans ?_); first | exact upd_same | assumption | exact TK.tok (by assumption) | exact TK.txt (by assumption))) ?_))
  refine CallI.mk (getc_spec P r.K hK (Cx.Calls.le hc (by decide)) hT2 (l1000 hl) fun H3 hT3 hk3 => ?_)
  exact key H3 hT3 hk3
/-- the loop -/
theorem get_loop (r : Rdy c' getN) (hK : c'.K = KK P) (hc : c'.Calls 3) (hX : c'.X = c.X) {H H1 : Hp} {t t1 : T} {sk : Int} {l : List (N × V)} (hT1 : TK H1 a f x nF .none t1) (hk1 : Kp a f H H1) (hl : x.length ≤ 40) (hw : Wf t1)
    (he : loop x note FUEL [] 3 false t1 = getP x lead note t) (hQ : getK c l₀ H Q a f x nF (getP x lead note t)) (h0 : subL l (GL a lead note sk [] 3 false)) : RunI c' (getB.s 6) ⟨l, H1⟩ (seqV (getT.v c' (retK l₀ Q)) (retK l₀ Q)) := by
  have G : GC P c' Q c l₀ a f x nF H1 (getP x lead note t) := ⟨r, hK, hc, hX, hl, hQ.cong hk1⟩
  have h1 : GP a f x nF note H1 (getP x lead note t) FUEL [] 3 false t1 H1 := ⟨hT1, Kp.refl _, mu_f x _ hl, Nat.le_of_ble_eq_true rfl, hw, .inl rfl, he⟩
  refine RunI.whlT (G := List Nat × Nat × Bool × T) r (by decide +kernel) (fun g => GL a lead note sk g.1 g.2.1 g.2.2.1) (fun k g H' => GP a f x nF note H1 (getP x lead note t) k g.1 g.2.1 g.2.2.1 g.2.2.2 H') FUEL ([], 3, false, t1) h0 h1 ?_
  intro n g H2 hP J hN hC hB hR
  obtain _ | n := n
  · exact absurd hP.hmu (Nat.not_lt_zero _)
  have hT2 := hP.tok
  have key : ∀ H3, TK H3 a f x nF .none (getc x g.2.2.2).2 → Kp a f H2 H3 → getM.v c' J ⟨GLc a lead note sk g.1 g.2.1 g.2.2.1 (getc x g.2.2.2).1, H3⟩ := fun H3 hT3 hk3 =>
    get_mid G (J := J) (n := n) ⟨fun tk ty esc t l H h1 h2 => hN n (tk, ty, esc, t) l H (Nat.lt_succ_self n) h1 h2, fun tk ty esc t l H h1 h2 => hC n (tk, ty, esc, t) l H (Nat.lt_succ_self n) h1 h2, fun σ q => hB σ q, fun v σ q => hR v σ q⟩
      hT3 (hP.kp.trans hk3) getc_uch (getc_len hP.wf) (fun h => Nat.le_of_lt_succ (Nat.lt_of_le_of_lt (getc_mu h) hP.hmu)) hP.len hP.hty (loop_succ.symm.trans hP.eq)
  exact consI (s := getL.s 0) (b := getM) (get_rd r hK hc hT2 hl key)
noncomputable def exL (e : Option Addr) : List (N × V) := match e with | none => [] | some b => [(.kutoken, .ref b)]
/-- get, past what was given back -/
theorem get_rest (e : Option Addr) (r : Rdy c' getN) (hK : c'.K = KK P) (hc : c'.Calls 3) (hX : c'.X = c.X) {H : Hp} {t : T} (hT : TK H a f x nF .none t) (hl : x.length ≤ 40) (hw : Wf t) (hQ : getK c l₀ H Q a f x nF (getP x lead note t)) :
    (getB.drop 1).v c' (retK l₀ Q) ⟨(.kself, .ref a) :: (.kwant_leading, .bool lead) :: (.kwant_comment, .bool note) :: exL e, H⟩ := by
  have lo : ∀ H1 l, TK H1 a f x nF .none (skip x FUEL 0 t).2 → Kp a f H H1 → loop x note FUEL [] 3 false (skip x FUEL 0 t).2 = getP x lead note t → subL l (GL a lead note (skip x FUEL 0 t).1 [] 3 false) → RunI c' (getB.s 6) ⟨l, H1⟩ (seqV (getT.v c' (retK l₀ Q)) (retK l₀ Q)) := fun H1 l hT1 hk1 he h0 =>
    get_loop r hK hc hX hT1 hk1 hl (skip_wf hw) he hQ h0
  cases e <;>
  · (repeat (first | refine attI (by ((repeat refine (upd_ne (by first | assumption | exact Ne.symm (by assumption))).trans ?_); first | exact upd_same | assumption | exact TK.tok (by assumption) | exact TK.txt (by assumption))) ?_ | refine stoI (by ((repeat refine (upd_ne (by first | assumption | exact Ne.symm (by assumption))).trans ?_); first | exact upd_same | assumption | exact TK.tok (by assumption) | exact TK.txt (by assumption))) ?_ | refine metI (by ((repeat refine (upd_ne (by first | assumption | exact Ne.symm (by assumption))).trans ?_); first | exact upd_same | assumption | exact TK.tok (by assumption) | exact TK.txt (by assumption))) ?_))
    refine CallI.mk (skip_spec P r.K hK hc hT (l1000 hl) (mu_f x t hl) fun H1 hT1 hk1 => ?_)
    cases lead
    · exact lo H1 _ hT1 hk1 (getP_l fun h => by cases h.1).symm ⟨rfl, rfl, rfl, rfl, rfl, rfl, rfl, trivial⟩
    · by_cases h0 : 0 < (skip x FUEL 0 t).1
      · (conv => whnf)
        refine brT (decide_eq_true (gt0 h0)) ?_
        refine CallI.mk (token_spec P r.K hK (Cx.Calls.le hc (by decide)) (in1 P) fun b H' h1 h2 _ => ?_)
        rw [getP_s h0] at hQ
        exact hQ b H' h1 ⟨h2 _ _ hT1.tok, h2 _ _ hT1.txt⟩ (hk1.trans h2.kp)
      · (conv => whnf)
        refine brF (decide_eq_false (gt0' h0)) ?_
        exact lo H1 _ hT1 hk1 (getP_l fun h => h0 h.2).symm ⟨rfl, rfl, rfl, rfl, rfl, rfl, rfl, trivial⟩
theorem get_in (P : Params) {u v w : V} : Comes P fd264 [.kself, .kwant_leading, .kwant_comment] [u, v, w] [] [] [u, v, w] := .all rfl fun s us hI h => by
  obtain ⟨u1, u2, u3, rfl⟩ := len3 h
  exact BindsTo.of_defaults (T := 257) rfl (hI _ _ rfl) rfl rfl rfl
theorem get_spec (P : Params) (K : c.Ok) (hK : c.K = KK P) (hc : c.Calls 4) {t : T} (hT : TK σ.H a f x nF .none t) (hl : x.length ≤ 40) (hw : Wf t)
   (hQ : getK c σ.loc σ.H Q a f x nF (getP x lead note t)) : CallV c (.ref 264) [.ref a, .bool lead, .bool note] [] [] σ Q := by
  refine (getF P).call (k := 3) K hK hc (get_in P) fun c' r hc' hK' hX' => ?_
  have key := get_rest none r hK' hc' hX' hT hl hw hQ
  refine consI (s := getB.s 0) (b := getB.drop 1) (hideS fun M hM => ?_)
  (repeat (first | refine attI (by ((repeat refine (upd_ne (by first | assumption | exact Ne.symm (by assumption))).trans ?_); first | exact upd_same | assumption | exact TK.tok (by assumption) | exact TK.txt (by assumption))) ?_ | refine stoI (by ((repeat refine (upd_ne (by first | assumption | exact Ne.symm (by assumption))).trans ?_); first | exact upd_same | assumption | exact TK.tok (by assumption) | exact TK.txt (by assumption))) ?_ | refine metI (by ((repeat refine (upd_ne (by first | assumption | exact Ne.symm (by assumption))).trans ?_); first | exact upd_same | assumption | exact TK.tok (by assumption) | exact TK.txt (by assumption))) ?_))
  exact hM _ key
variable {b : Addr} {i : Int} {vv ve vc : V}
/-- get, a token having been given back that is not dropped -/
theorem get_held (P : Params) (K : c.Ok) (hK : c.K = KK P) (hc : c.Calls 4) {t : T} (hT : TK σ.H a f x nF (.ref b) t) (hb : σ.H b = some (.inst 209 (tkFs (.int i) vv ve vc))) (hg : (i ≠ 2 ∨ lead = true) ∧ (i ≠ 5 ∨ note = true))
   (hQ : ∀ H', TK H' a f x nF .none t → Kp a f σ.H H' → Q (.ref b) ⟨σ.loc, H'⟩) : CallV c (.ref 264) [.ref a, .bool lead, .bool note] [] [] σ Q := by
  refine (getF P).call (k := 3) K hK hc (get_in P) fun c' r hc' hK' hX' => ?_
  have hne := hT.ne
  have hba : b ≠ a := cls_ne hb hT.tok (by decide)
  have fin := hQ (σ.H.upd a (.inst 451 (tokFs f t .none nF))) ⟨upd_same, (upd_ne (Ne.symm hne)).trans hT.txt⟩ (Kp.refl _).a
  (repeat (first | refine attI (by ((repeat refine (upd_ne (by first | assumption | exact Ne.symm (by assumption))).trans ?_); first | exact upd_same | assumption | exact TK.tok (by assumption) | exact TK.txt (by assumption))) ?_ | refine stoI (by ((repeat refine (upd_ne (by first | assumption | exact Ne.symm (by assumption))).trans ?_); first | exact upd_same | assumption | exact TK.tok (by assumption) | exact TK.txt (by assumption))) ?_ | refine metI (by ((repeat refine (upd_ne (by first | assumption | exact Ne.symm (by assumption))).trans ?_); first | exact upd_same | assumption | exact TK.tok (by assumption) | exact TK.txt (by assumption))) ?_))
  refine CallI.mk (is_ws P r.K hK' (Cx.Calls.le hc' (by decide)) ((upd_ne hba).trans hb) ?_)
  by_cases i2 : i = 2
  · obtain rfl : lead = true := hg.1.resolve_left fun h => h i2
    (conv => whnf)
    exact brT (decide_eq_true i2) fin
  (conv => whnf)
  refine brF (decide_eq_false i2) ?_
  (repeat (first | refine attI (by ((repeat refine (upd_ne (by first | assumption | exact Ne.symm (by assumption))).trans ?_); first | exact upd_same | assumption | exact TK.tok (by assumption) | exact TK.txt (by assumption))) ?_ | refine stoI (by ((repeat refine (upd_ne (by first | assumption | exact Ne.symm (by assumption))).trans ?_); first | exact upd_same | assumption | exact TK.tok (by assumption) | exact TK.txt (by assumption))) ?_ | refine metI (by ((repeat refine (upd_ne (by first | assumption | exact Ne.symm (by assumption))).trans ?_); first | exact upd_same | assumption | exact TK.tok (by assumption) | exact TK.txt (by assumption))) ?_))
  refine CallI.mk (is_cm P r.K hK' (Cx.Calls.le hc' (by decide)) ((upd_ne hba).trans hb) ?_)
  by_cases i5 : i = 5
  · obtain rfl : note = true := hg.2.resolve_left fun h => h i5
    (conv => whnf)
    exact brT (decide_eq_true i5) fin
  (conv => whnf)
  exact brF (decide_eq_false i5) fin
/-- get, a token having been given back that is dropped -/
theorem get_drop (P : Params) (K : c.Ok) (hK : c.K = KK P) (hc : c.Calls 4) {t : T} (hT : TK σ.H a f x nF (.ref b) t) (hl : x.length ≤ 40) (hw : Wf t) (hb : σ.H b = some (.inst 209 (tkFs (.int i) vv ve vc))) (hg : (i = 2 ∧ lead = false) ∨ (i = 5 ∧ note = false))
   (hQ : getK c σ.loc σ.H Q a f x nF (getP x lead note t)) : CallV c (.ref 264) [.ref a, .bool lead, .bool note] [] [] σ Q := by
  refine (getF P).call (k := 3) K hK hc (get_in P) fun c' r hc' hK' hX' => ?_
  have hne := hT.ne
  have hba : b ≠ a := cls_ne hb hT.tok (by decide)
  have fin : (getB.drop 1).v c' (retK σ.loc Q) ⟨[(.kself, .ref a), (.kwant_leading, .bool lead), (.kwant_comment, .bool note), (.kutoken, .ref b)], σ.H.upd a (.inst 451 (tokFs f t .none nF))⟩ :=
    get_rest (some b) r hK' hc' hX' ⟨upd_same, (upd_ne (Ne.symm hne)).trans hT.txt⟩ hl hw (hQ.cong (Kp.refl _).a)
  refine consI (s := getB.s 0) (b := getB.drop 1) (hideS fun M hM => ?_)
  have fin := hM _ fin
  (repeat (first | refine attI (by ((repeat refine (upd_ne (by first | assumption | exact Ne.symm (by assumption))).trans ?_); first | exact upd_same | assumption | exact TK.tok (by assumption) | exact TK.txt (by assumption))) ?_ | refine stoI (by ((repeat refine (upd_ne (by first | assumption | exact Ne.symm (by assumption))).trans ?_); first | exact upd_same | assumption | exact TK.tok (by assumption) | exact TK.txt (by assumption))) ?_ | refine metI (by ((repeat refine (upd_ne (by first | assumption | exact Ne.symm (by assumption))).trans ?_); first | exact upd_same | assumption | exact TK.tok (by assumption) | exact TK.txt (by assumption))) ?_))
  refine CallI.mk (is_ws P r.K hK' (Cx.Calls.le hc' (by decide)) ((upd_ne hba).trans hb) ?_)
  rcases hg with ⟨i2, rfl⟩ | ⟨i5, rfl⟩
  · (conv => whnf)
    refine brT (decide_eq_true i2) ?_
    exact fin
  · (conv => whnf)
    refine brF (decide_eq_false (by subst i5; decide)) ?_
    (repeat (first | refine attI (by ((repeat refine (upd_ne (by first | assumption | exact Ne.symm (by assumption))).trans ?_); first | exact upd_same | assumption | exact TK.tok (by assumption) | exact TK.txt (by assumption))) ?_ | refine stoI (by ((repeat refine (upd_ne (by first | assumption | exact Ne.symm (by assumption))).trans ?_); first | exact upd_same | assumption | exact TK.tok (by assumption) | exact TK.txt (by assumption))) ?_ | refine metI (by ((repeat refine (upd_ne (by first | assumption | exact Ne.symm (by assumption))).trans ?_); first | exact upd_same | assumption | exact TK.tok (by assumption) | exact TK.txt (by assumption))) ?_))
    refine CallI.mk (is_cm P r.K hK' (Cx.Calls.le hc' (by decide)) ((upd_ne hba).trans hb) ?_)
    (conv => whnf)
    refine brT (decide_eq_true i5) ?_
    exact fin
end

theorem full_spec (P : Params) (K : c.Ok) (hK : c.K = KK P) (hc : c.Calls 2) {Q : V → St → Prop} {a f b : Addr} {x nF : List Nat} {v : V} {t : T} (hT : TK σ.H a f x nF (.ref b) t)
   (hQ : Q (.bool true) σ) : CallV c (.ref 507) [.ref a, v] [] [] σ Q := by
  refine (fullF P).call (k := 1) K hK hc (.all rfl fun s us _ h => ?_) fun c' r hc' hK' hX' => ?_
  · obtain ⟨u1, u2, rfl⟩ := len2 h
    exact BindsTo.of_eq rfl
  refine RunI.try r (by decide +kernel) fun c2 r2 hc2 hK2 hX2 => ?_
  (repeat (first | refine attI (by ((repeat refine (upd_ne (by first | assumption | exact Ne.symm (by assumption))).trans ?_); first | exact upd_same | assumption | exact TK.tok (by assumption) | exact TK.txt (by assumption))) ?_ | refine stoI (by ((repeat refine (upd_ne (by first | assumption | exact Ne.symm (by assumption))).trans ?_); first | exact upd_same | assumption | exact TK.tok (by assumption) | exact TK.txt (by assumption))) ?_ | refine metI (by ((repeat refine (upd_ne (by first | assumption | exact Ne.symm (by assumption))).trans ?_); first | exact upd_same | assumption | exact TK.tok (by assumption) | exact TK.txt (by assumption))) ?_))
  refine CallI.mk (unget_full P r2.K (hK2.trans hK') (Cx.Calls.le (hc2 _ hc') (by decide)) hT (hX2 98 _ (by decide) ?_))
  exact fun _ _ => hQ
theorem told_in (P : Params) {u v w : V} : Comes P fd514 [.kreader, .klead, .knote] [u, v, w] [] [] [u, v, w] := .all rfl fun s us _ h => by
  obtain ⟨u1, u2, u3, rfl⟩ := len3 h
  exact BindsTo.of_eq rfl
/-- what a get that is watched gives -/
noncomputable def toldK (l : List (N × V)) (H : Hp) (Q : V → St → Prop) (a f : Addr) (x nF : List Nat) (r : Rs × T) : Prop := match r.1 with
  | .tok ty val esc com => ∀ b H', H' b = some (.inst 209 (tkFs (.int ty) (.str val) (.bool esc) (comV com))) → TK H' a f x nF .none r.2 → Kp a f H H' → Q (.tup [.str [], .ref b]) ⟨l, H'⟩
  | .synt => ∀ H', TK H' a f x nF .none r.2 → Kp a f H H' → Q (.tup [.str [115, 121, 110, 116, 97, 120], .none]) ⟨l, H'⟩
  | .ended => ∀ H', TK H' a f x nF .none r.2 → Kp a f H H' → Q (.tup [.str [101, 110, 100], .none]) ⟨l, H'⟩
section
variable {P : Params} {Q : V → St → Prop} {a f : Addr} {x nF : List Nat} {lead note : Bool} {u : V}
theorem told_gen (K : c.Ok) (hK : c.K = KK P) (hc : c.Calls 5) {t : T} (hT : TK σ.H a f x nF u t) {OK : Addr → Hp → Prop} {SY EN : Hp → Prop}
   (hget : ∀ (c' : Cx) (l : List (N × V)) (Q' : V → St → Prop), c'.Ok → c'.K = KK P → c'.Calls 4 → (∀ b H', OK b H' → Q' (.ref b) ⟨l, H'⟩) → (∀ H', SY H' → c'.X 44 H') → (∀ H', EN H' → c'.X 56 H') → CallV c' (.ref 264) [.ref a, .bool lead, .bool note] [] [] ⟨l, σ.H⟩ Q')
   (hok : ∀ b H', OK b H' → Q (.tup [.str [], .ref b]) ⟨σ.loc, H'⟩) (hsy : ∀ H', SY H' → Q (.tup [.str [115, 121, 110, 116, 97, 120], .none]) ⟨σ.loc, H'⟩) (hen : ∀ H', EN H' → Q (.tup [.str [101, 110, 100], .none]) ⟨σ.loc, H'⟩) :
    CallV c (.ref 514) [.ref a, .bool lead, .bool note] [] [] σ Q := by
  refine (toldF P).call (k := 4) K hK hc (told_in P) fun c' r hc' hK' hX' => ?_
  refine RunI.try r (by decide +kernel) fun c2 r2 hc2 hK2 hX2 => ?_
  (repeat (first | refine attI (by ((repeat refine (upd_ne (by first | assumption | exact Ne.symm (by assumption))).trans ?_); first | exact upd_same | assumption | exact TK.tok (by assumption) | exact TK.txt (by assumption))) ?_ | refine stoI (by ((repeat refine (upd_ne (by first | assumption | exact Ne.symm (by assumption))).trans ?_); first | exact upd_same | assumption | exact TK.tok (by assumption) | exact TK.txt (by assumption))) ?_ | refine metI (by ((repeat refine (upd_ne (by first | assumption | exact Ne.symm (by assumption))).trans ?_); first | exact upd_same | assumption | exact TK.tok (by assumption) | exact TK.txt (by assumption))) ?_))
  refine CallI.mk (hget c2 _ _ r2.K (hK2.trans hK') (hc2 _ hc') (fun b H' h => hok b H' h) (fun H' h => hX2 44 _ (by decide) ?_) (fun H' h => hX2 56 _ (by decide) ?_))
  · exact fun _ _ => hsy H' h
  · exact fun _ _ => hen H' h
theorem getK_of {c' : Cx} {l : List (N × V)} {H : Hp} {Q' : V → St → Prop} {r : Rs × T} (h1 : ∀ b H', (∃ ty val esc com, r.1 = .tok ty val esc com ∧ H' b = some (.inst 209 (tkFs (.int (ty : Nat)) (.str val) (.bool esc) (comV com)))) ∧ TK H' a f x nF .none r.2 ∧ Kp a f H H' → Q' (.ref b) ⟨l, H'⟩)
    (h2 : ∀ H', r.1 = .synt ∧ TK H' a f x nF .none r.2 ∧ Kp a f H H' → c'.X 44 H') (h3 : ∀ H', r.1 = .ended ∧ TK H' a f x nF .none r.2 ∧ Kp a f H H' → c'.X 56 H') : getK c' l H Q' a f x nF r := by
  obtain ⟨r, t⟩ := r
  cases r with
  | tok ty val esc com => exact fun b H' g1 g2 g3 => h1 b H' ⟨⟨_, _, _, _, rfl, g1⟩, g2, g3⟩
  | synt => exact fun H' g2 g3 => h2 H' ⟨rfl, g2, g3⟩
  | ended => exact fun H' g2 g3 => h3 H' ⟨rfl, g2, g3⟩
/-- told, from what getK asks -/
theorem told_of (K : c.Ok) (hK : c.K = KK P) (hc : c.Calls 5) {t : T} {r : Rs × T} (hT : TK σ.H a f x nF u t) (hget : ∀ (c' : Cx) (l : List (N × V)) (Q' : V → St → Prop), c'.Ok → c'.K = KK P → c'.Calls 4 → getK c' l σ.H Q' a f x nF r → CallV c' (.ref 264) [.ref a, .bool lead, .bool note] [] [] ⟨l, σ.H⟩ Q')
    (hQ : toldK σ.loc σ.H Q a f x nF r) : CallV c (.ref 514) [.ref a, .bool lead, .bool note] [] [] σ Q := by
  refine told_gen K hK hc hT (fun c' l Q' K' hK' hc' h1 h2 h3 => hget c' l Q' K' hK' hc' (getK_of h1 h2 h3)) ?_ ?_ ?_
  · rintro b H' ⟨⟨ty, val, esc, com, e, h1⟩, h2, h3⟩
    unfold toldK at hQ
    rw [e] at hQ
    exact hQ b H' h1 h2 h3
  · rintro H' ⟨e, h2, h3⟩
    unfold toldK at hQ
    rw [e] at hQ
    exact hQ H' h2 h3
  · rintro H' ⟨e, h2, h3⟩
    unfold toldK at hQ
    rw [e] at hQ
    exact hQ H' h2 h3
theorem told_none (K : c.Ok) (hK : c.K = KK P) (hc : c.Calls 5) {t : T} (hT : TK σ.H a f x nF .none t) (hl : x.length ≤ 40) (hw : Wf t) (hQ : toldK σ.loc σ.H Q a f x nF (getP x lead note t)) : CallV c (.ref 514) [.ref a, .bool lead, .bool note] [] [] σ Q :=
  told_of K hK hc hT (fun c' l Q' K' hK' hc' h => get_spec (σ := ⟨l, σ.H⟩) P K' hK' hc' hT hl hw h) hQ
variable {b : Addr} {i : Int} {vv ve vc : V}
theorem told_drop (K : c.Ok) (hK : c.K = KK P) (hc : c.Calls 5) {t : T} (hT : TK σ.H a f x nF (.ref b) t) (hl : x.length ≤ 40) (hw : Wf t) (hb : σ.H b = some (.inst 209 (tkFs (.int i) vv ve vc))) (hg : (i = 2 ∧ lead = false) ∨ (i = 5 ∧ note = false)) (hQ : toldK σ.loc σ.H Q a f x nF (getP x lead note t)) :
    CallV c (.ref 514) [.ref a, .bool lead, .bool note] [] [] σ Q :=
  told_of K hK hc hT (fun c' l Q' K' hK' hc' h => get_drop (σ := ⟨l, σ.H⟩) P K' hK' hc' hT hl hw hb hg h) hQ
theorem told_held (K : c.Ok) (hK : c.K = KK P) (hc : c.Calls 5) {t : T} (hT : TK σ.H a f x nF (.ref b) t) (hb : σ.H b = some (.inst 209 (tkFs (.int i) vv ve vc))) (hg : (i ≠ 2 ∨ lead = true) ∧ (i ≠ 5 ∨ note = true))
    (hQ : ∀ H', TK H' a f x nF .none t → Kp a f σ.H H' → Q (.tup [.str [], .ref b]) ⟨σ.loc, H'⟩) : CallV c (.ref 514) [.ref a, .bool lead, .bool note] [] [] σ Q :=
  told_gen (OK := fun b' H' => b' = b ∧ TK H' a f x nF .none t ∧ Kp a f σ.H H') (SY := fun _ => False) (EN := fun _ => False) K hK hc hT (fun c' l Q' K' hK' hc' h1 _ _ => get_held (σ := ⟨l, σ.H⟩) P K' hK' hc' hT hb hg fun H' g1 g2 => h1 b H' ⟨rfl, g1, g2⟩)
    (fun b' H' ⟨e, g1, g2⟩ => by subst e; exact hQ H' g1 g2) (fun _ h => h.elim) fun _ h => h.elim
end

section
variable {P : Params} {Q : V → St → Prop} {x nF : List Nat} {vs : List V}
noncomputable abbrev tkNs : List N := [.kself, .kf, .kfilename]
noncomputable def STRING : List Nat := [60, 115, 116, 114, 105, 110, 103, 62]
theorem tin_d (P : Params) {v : V} (a : Addr) : Comes P fd228 tkNs [.ref a, v] [] [] [.ref a, v, .none] := ⟨rfl, fun s us ku hI hus hku => by
  obtain ⟨_, _, rfl, h1, _, _, rfl, h2, rfl⟩ := hus; cases hku
  exact ⟨[_, _, .none], ⟨_, _, rfl, h1, _, _, rfl, h2, _, _, rfl, rfl, rfl⟩, BindsTo.of_defaults (T := 221) rfl (hI _ _ rfl) rfl rfl rfl⟩⟩
theorem tin_l (P : Params) {v w : V} (a : Addr) : Comes P fd228 tkNs [.ref a, v, w] [] [] [.ref a, v, w] := .all rfl fun s us hI h => by
  obtain ⟨u1, u2, u3, rfl⟩ := len3 h
  exact BindsTo.of_defaults (T := 221) rfl (hI _ _ rfl) rfl rfl rfl
/-- behind the making of the text -/
theorem tk_tail (c' : Cx) {a f : Addr} {v : V} {H : Hp} {J : Fl → St → Prop} (ha : H a = some (.inst 451 [(.kfile, .ref f)])) (hf : H f = some (.inst 84 (txtFs x 0))) (hJ : ∀ l H', TK H' a f x nF .none T0 → Kp a f H H' → J .next ⟨l, H'⟩) :
    (tk0B.drop 1).v c' J ⟨[(.kself, .ref a), (.kf, v), (.kfilename, .str nF)], H⟩ := by
  have hfa : f ≠ a := cls_ne hf ha (by decide)
  (repeat (first | refine attI (by ((repeat refine (upd_ne (by first | assumption | exact Ne.symm (by assumption))).trans ?_); first | exact upd_same | assumption | exact TK.tok (by assumption) | exact TK.txt (by assumption))) ?_ | refine stoI (by ((repeat refine (upd_ne (by first | assumption | exact Ne.symm (by assumption))).trans ?_); first | exact upd_same | assumption | exact TK.tok (by assumption) | exact TK.txt (by assumption))) ?_ | refine metI (by ((repeat refine (upd_ne (by first | assumption | exact Ne.symm (by assumption))).trans ?_); first | exact upd_same | assumption | exact TK.tok (by assumption) | exact TK.txt (by assumption))) ?_))
  exact hJ _ _ ⟨upd_same, (upd_ne hfa).trans ((upd_ne hfa).trans ((upd_ne hfa).trans ((upd_ne hfa).trans ((upd_ne hfa).trans ((upd_ne hfa).trans ((upd_ne hfa).trans ((upd_ne hfa).trans ((upd_ne hfa).trans hf))))))))⟩ (Kp.refl _).a.a.a.a.a.a.a.a.a
theorem upd_none {H : Hp} {a f : Addr} {o : O} (h : (H.upd a o) f = none) : f ≠ a ∧ H f = none := by
  by_cases e : f = a
  · subst e; rw [upd_same] at h; cases h
  · rw [upd_ne e] at h; exact ⟨e, h⟩
/-- the text is made, stored, and the rest follows -/
theorem tk_mk (c' : Cx) (K' : c'.Ok) (hK' : c'.K = KK P) (hc' : c'.Calls 1) {a : Addr} {v : V} {H : Hp} {l : List (N × V)} (hn : H a = none) {J : Fl → St → Prop} {M : St → Prop} (hM : ∀ σ, (tk0B.drop 1).v c' J σ → M σ)
    (hJ : ∀ f l H', TK H' a f x nF .none T0 → Kpa H H' → J .next ⟨l, H'⟩) {K : V → St → Prop} (hK : ∀ f H1, H1 a = some (.inst 451 []) → M ⟨[(.kself, .ref a), (.kf, v), (.kfilename, .str nF)], H1.upd a (.inst 451 [(.kfile, .ref f)])⟩ → K (.ref f) ⟨l, H1⟩) :
    CallV c' (.ref 84) [.str x] [] [] ⟨l, H.upd a (.inst 451 [])⟩ K := by
  refine text_init P K' hK' hc' fun f H1 h1 h2 h3 => ?_
  have ha := h2 a _ upd_same
  have hfn := upd_none h3
  refine hK f H1 ha (hM _ (tk_tail c' upd_same ((upd_ne hfn.1).trans h1) fun l' H' g1 g2 => hJ f l' H' g1 fun b o e => ?_))
  have hb := new_ne hn e
  exact g2 b o hb (new_ne hfn.2 e) ((upd_ne hb).trans (h2 b o ((upd_ne hb).trans e)))
theorem tk_str (K : c.Ok) (hK : c.K = KK P) (hc : c.Calls 2) (hQ : ∀ a f H', TK H' a f x STRING .none T0 → Kpa σ.H H' → Q (.ref a) ⟨σ.loc, H'⟩) : CallV c (.ref 451) [.str x] [] [] σ Q := by
  refine (tk0F P).make (by decide) (k := 1) K hK hc (tin_d P) fun a ha c' r hc' hK' hX' => ?_
  refine consI (s := tk0B.s 0) (b := tk0B.drop 1) (hideS fun M hM => ?_)
  refine CallI.mk (CallV.isS ?_)
  refine CallI.mk (tk_mk (v := .str x) (nF := STRING) c' r.K hK' hc' ha hM (fun f l H' g1 g2 => ⟨rfl, hQ a f H' g1 g2⟩) fun f H1 h1 h => ?_)
  refine stoI h1 ?_
  exact h
theorem tk_strL (K : c.Ok) (hK : c.K = KK P) (hc : c.Calls 2) (hQ : ∀ a f H', TK H' a f x nF .none T0 → Kpa σ.H H' → Q (.ref a) ⟨σ.loc, H'⟩) : CallV c (.ref 451) [.str x, .str nF] [] [] σ Q := by
  refine (tk0F P).make (by decide) (k := 1) K hK hc (tin_l P) fun a ha c' r hc' hK' hX' => ?_
  refine consI (s := tk0B.s 0) (b := tk0B.drop 1) (hideS fun M hM => ?_)
  refine CallI.mk (CallV.isS ?_)
  refine CallI.mk (tk_mk (v := .str x) (nF := nF) c' r.K hK' hc' ha hM (fun f l H' g1 g2 => ⟨rfl, hQ a f H' g1 g2⟩) fun f H1 h1 h => ?_)
  refine stoI h1 ?_
  exact h
theorem tk_by (K : c.Ok) (hK : c.K = KK P) (hc : c.Calls 2) (hx : ∀ n ∈ x, n < 256) (hlen : (enc x).length ≤ 1000000) (hQ : ∀ a f H', TK H' a f x STRING .none T0 → Kpa σ.H H' → Q (.ref a) ⟨σ.loc, H'⟩) : CallV c (.ref 451) [.bytes (enc x).toArray] [] [] σ Q := by
  refine (tk0F P).make (by decide) (k := 1) K hK hc (tin_d P) fun a ha c' r hc' hK' hX' => ?_
  refine consI (s := tk0B.s 0) (b := tk0B.drop 1) (hideS fun M hM => ?_)
  refine CallI.mk (CallV.isB ?_)
  refine CallI.mk (CallV.decode hx hlen ?_)
  refine CallI.mk (tk_mk (v := .bytes (enc x).toArray) (nF := STRING) c' r.K hK' hc' ha hM (fun f l H' g1 g2 => ⟨rfl, hQ a f H' g1 g2⟩) fun f H1 h1 h => ?_)
  refine stoI h1 ?_
  exact h
theorem tk_byL (K : c.Ok) (hK : c.K = KK P) (hc : c.Calls 2) (hx : ∀ n ∈ x, n < 256) (hlen : (enc x).length ≤ 1000000) (hQ : ∀ a f H', TK H' a f x nF .none T0 → Kpa σ.H H' → Q (.ref a) ⟨σ.loc, H'⟩) : CallV c (.ref 451) [.bytes (enc x).toArray, .str nF] [] [] σ Q := by
  refine (tk0F P).make (by decide) (k := 1) K hK hc (tin_l P) fun a ha c' r hc' hK' hX' => ?_
  refine consI (s := tk0B.s 0) (b := tk0B.drop 1) (hideS fun M hM => ?_)
  refine CallI.mk (CallV.isB ?_)
  refine CallI.mk (CallV.decode hx hlen ?_)
  refine CallI.mk (tk_mk (v := .bytes (enc x).toArray) (nF := nF) c' r.K hK' hc' ha hM (fun f l H' g1 g2 => ⟨rfl, hQ a f H' g1 g2⟩) fun f H1 h1 h => ?_)
  refine stoI h1 ?_
  exact h
end

noncomputable def RowOk (row : List Int) : Prop := row.length = 49 ∧ ∀ v ∈ row, 0 ≤ v ∧ v < 1000000
theorem rowOk0 : RowOk LAWROW := ⟨rfl, by decide⟩
theorem rowOk_set {row : List Int} {k : Nat} {v : Int} (h : RowOk row) (h1 : 0 ≤ v) (h2 : v < 1000000) : RowOk (row.set k v) :=
  ⟨by rw [List.length_set]; exact h.1, fun u hu => by
    rcases List.mem_or_eq_of_mem_set hu with hu | rfl
    · exact h.2 u hu
    · exact ⟨h1, h2⟩⟩
theorem sign_at {i : Int} (h0 : 0 ≤ i) (h1 : i < 24) : (SIGNS.map V.str)[i.toNat]? = some (.str (SIGNS.getD i.toNat [])) := by
  have h : i.toNat < SIGNS.length := by show i.toNat < 24; omega
  simp [List.getD, h]
theorem sign_sz {k : Nat} : (SIGNS.getD k []).length ≤ 5 ∧ ∀ n ∈ SIGNS.getD k [], n < 256 := by
  by_cases h : k < 24
  · have : ∀ k : Fin 24, (SIGNS.getD k.val []).length ≤ 5 ∧ ∀ n ∈ SIGNS.getD k.val [], n < 256 := by decide
    exact this ⟨k, h⟩
  · rw [List.getD_eq_getElem?_getD, List.getElem?_eq_none (by show 24 ≤ k; omega)]
    exact ⟨Nat.zero_le _, fun n hn => by cases hn⟩


theorem del_ne {H : Hp} {a b : Addr} (h : b ≠ a) : (H.del a) b = H b := if_neg h
theorem some_i {ns : List Int} {i : Nat} (h : i < ns.length) : (ns.map V.int)[((i : Int)).toNat]? = some (.int (ns.getD i 0)) := by simp [List.getD, h]
theorem small_i {i k : Nat} (h : i < k) (hk : k ≤ 49) : (0 : Int) ≤ i ∧ (i : Int) < 2 ^ 60 := by omega
theorem it_next {i k : Nat} : some (O.riter ((i : Int) + 1) ((k : Int) - i - 1)) = some (.riter ((i + 1 : Nat) : Int) ((k : Int) - ((i + 1 : Nat) : Int))) := by congr 2; omega
theorem min49 (ns : List Int) : min (((ns.map V.int).length : Nat) : Int) (((LAWROW.map V.int).length : Nat) : Int) = ((min ns.length 49 : Nat) : Int) := by
  rw [List.length_map]; show min (ns.length : Int) (49 : Int) = _; omega
theorem set_i {row : List Int} {i : Nat} {v : Int} : (row.map V.int).set ((i : Int)).toNat (.int v) = (row.set i v).map V.int := by simp [List.map_set]
theorem BL.at {c' : Cx} {a : Addr} {vs : List V} (h : BL c a vs) (e : c'.base = c.base) : BL c' a vs := by unfold BL; rw [e]; exact h
theorem l63 {n : Nat} (h : n ≤ 63) : n ≤ 1000000 := Nat.le_trans h (by decide)
theorem row_spec (P : Params) (K : c.Ok) (hK : c.K = KK P) (hc : c.Calls 1) {Q : V → St → Prop} {sa : Addr} {ns : List Int} (hb : BL c sa (ns.map .int)) (hl : ns.length ≤ 63)
   (hQ : ∀ r row H', RowOk row → H' r = some (.list (row.map .int)) → Kpa σ.H H' → Q (.ref r) ⟨σ.loc, H'⟩) : CallV c (.ref 465) [.ref sa] [] [] σ Q := by
  refine (rowF P).callB (k := 0) K hK hc (.all rfl fun s us _ h => ?_) fun c' r hc' hK' hB' => ?_
  · obtain ⟨u1, rfl⟩ := len1 h
    exact BindsTo.of_eq rfl
  have hb' := hb.at hB'
  refine CallI.mk (CallV.listT (by decide) fun ro hro => ?_)
  refine RunI.forR (G := List Int) r (by decide +kernel) ?_
  refine CallI.mk (CallV.lenB hb' (by rw [List.length_map]; exact l63 hl) ?_)
  refine CallI.mk (CallV.lenL upd_same (by decide) ?_)
  refine CallI.mk (CallV.min2 r.hh ?_)
  refine CallI.mk (CallV.range fun ra hra => ?_)
  have hne : ro ≠ ra := new_ne hra upd_same
  have k0 : Kpa σ.H ((σ.H.upd ro (.list (LAWROW.map .int))).upd ra (.range (min (((ns.map V.int).length : Nat) : Int) (((LAWROW.map V.int).length : Nat) : Int)))) := ((Kpa.refl _).new hro).new hra
  have k1 : min ns.length 49 ≤ 49 := Nat.min_le_right _ _
  have k2 : min ns.length 49 ≤ ns.length := Nat.min_le_left _ _
  rw [min49] at k0 ⊢
  generalize min ns.length 49 = kk at *
  refine ⟨ra, kk, fun _ => [(.kscript, .ref sa), (.krow, .ref ro)], fun it i row H => RowOk row ∧ H ro = some (.list (row.map .int)) ∧ H it = some (.riter i (kk - i)) ∧ ro ≠ it ∧ σ.H it = none ∧ Kpa σ.H H, LAWROW, rfl, upd_same, Nat.lt_of_le_of_lt k1 (by decide), ⟨⟨rfl, rfl, trivial⟩, fun it hit => ?_⟩, fun it i row H h => h.2.2.1, ?_, ?_⟩
  · have h0 : ro ≠ it := new_ne hit ((upd_ne hne).trans upd_same)
    exact ⟨rowOk0, (upd_ne h0).trans ((upd_ne hne).trans upd_same), upd_same.trans (by rw [Int.natCast_zero, Int.sub_zero]), h0, k0.none hit, k0.new hit⟩
  · intro it i row H hi hP J hJ _
    obtain ⟨hR, j1, j2, j3, j4, j5⟩ := hP
    have hi0 := small_i hi k1
    refine Exists.intro _ (And.intro (.inr ⟨sa, _, i, rfl, hb', rfl, hi0.1, hi0.2, some_i (Nat.lt_of_lt_of_le hi k2)⟩) ?_)
    refine And.intro (by decide) ?_
    refine Exists.intro _ (And.intro ⟨(upd_ne j3).trans j1, hi0.1, by rw [List.length_map, hR.1]; omega, hi0.2⟩ ?_)
    refine hJ (row.set i (ns.getD i 0 % 1000000)) _ _ ⟨rfl, rfl, trivial⟩ ⟨rowOk_set hR (Int.emod_nonneg _ (by decide)) (Int.emod_lt_of_pos _ (by decide)), ?_, ?_, j3, j4, (j5.upd j4).upd hro⟩
    · exact upd_same.trans (congrArg (fun l => some (O.list l)) set_i)
    · exact (upd_ne (Ne.symm j3)).trans (upd_same.trans it_next)
  · intro it row H hP
    obtain ⟨hR, j1, j2, j3, j4, j5⟩ := hP
    exact hQ ro row _ hR ((del_ne j3).trans j1) (j5.del j4)

theorem ai {ns : List Int} {i : Nat} {v : V} (h : (ns.map V.int)[i]? = some v) : ∃ nv, ns[i]? = some nv ∧ v = V.int nv := by
  rw [List.getElem?_map] at h
  cases q : ns[i]? with
  | none => rw [q] at h; cases h
  | some nv => rw [q] at h; exact ⟨nv, rfl, (Option.some.inj h).symm⟩
theorem lenT1 {t t' : List Nat} {i : Nat} (h : t.length ≤ 5 * i) (h' : t'.length ≤ 5) : (t ++ t').length ≤ 5 * (i + 1) := by rw [List.length_append]; omega
theorem lenT2 {t t' : List Nat} {i : Nat} (h : t.length ≤ 5 * i) (h' : t'.length ≤ 5) (hi : i ≤ 63) : t.length + t'.length ≤ 10000000 := by omega
theorem mem2 {t t' : List Nat} (h : ∀ n ∈ t, n < 256) (h' : ∀ n ∈ t', n < 256) : ∀ n ∈ t ++ t', n < 256 := fun n hn => (List.mem_append.mp hn).elim (h n) (h' n)
theorem p60 {i : Int} (h : i < 24) : i < 2 ^ 60 := by omega
theorem mul5 {i : Nat} (h : i ≤ 63) {n : Nat} (hn : n ≤ 5 * i) : n ≤ 1000000 := by omega
theorem cut40 {t : List Nat} (h : ∀ n ∈ t, n < 256) : (sliceL t 0 40).length ≤ 40 ∧ ∀ i, (sliceL t 0 40).getD i 0 < 256 := by
  refine ⟨List.length_take_le _ _, fun i => ?_⟩
  rw [List.getD_eq_getElem?_getD]
  cases q : (sliceL t 0 40)[i]? with
  | none => decide
  | some n => exact h n (List.mem_of_mem_drop (List.mem_of_mem_take (List.mem_of_getElem? q)))
theorem text_spec (P : Params) (K : c.Ok) (hK : c.K = KK P) (hc : c.Calls 1) {Q : V → St → Prop} {na : Addr} {ns : List Int} (hH : σ.H na = some (.list (ns.map .int))) (h0 : ∀ v ∈ ns, 0 ≤ v) (hl : ns.length ≤ 63)
   (hQ : ∀ x H', x.length ≤ 40 → (∀ i, x.getD i 0 < 256) → Kpa σ.H H' → Q (.str x) ⟨σ.loc, H'⟩) : CallV c (.ref 472) [.ref na] [] [] σ Q := by
  refine (textF P).call (k := 0) K hK hc (.all rfl fun s us _ h => ?_) fun c' r hc' hK' hX' => ?_
  · obtain ⟨u1, rfl⟩ := len1 h
    exact BindsTo.of_eq rfl
  refine RunI.forL (G := List Nat) r (by decide +kernel) ?_
  refine ⟨na, ns.map .int, fun t => [(.ktext, .str t)], fun it i t H => t.length ≤ 5 * i ∧ (∀ n ∈ t, n < 256) ∧ H na = some (.list (ns.map .int)) ∧ H it = some (.liter na i) ∧ na ≠ it ∧ σ.H it = none ∧ Kpa σ.H H, [], rfl, hH, ⟨⟨rfl, trivial⟩, fun it hit => ?_⟩, fun it i t H h => ⟨h.2.2.2.1, h.2.2.1⟩, ?_, ?_⟩
  · have h1 : na ≠ it := new_ne hit hH
    exact ⟨Nat.zero_le _, fun n hn => (by cases hn), (upd_ne h1).trans hH, upd_same, h1, hit, (Kpa.refl _).new hit⟩
  · intro it i v t H hv hP J hJ _
    obtain ⟨t1, t2, j1, j2, j3, j4, j5⟩ := hP
    obtain ⟨nv, hnv, rfl⟩ := ai hv
    have hi : i ≤ 63 := Nat.le_trans (Nat.le_of_lt (List.getElem?_eq_some_iff.mp hnv).1) hl
    have hm0 : 0 ≤ nv % 24 := Int.emod_nonneg _ (by decide)
    have hm1 : nv % 24 < 24 := Int.emod_lt_of_pos _ (by decide)
    have fin : ∀ t' : List Nat, t'.length ≤ 5 → (∀ n ∈ t', n < 256) → J .next ⟨[(.ktext, .str (t ++ t')), (.knumber, .int nv)], H.upd it (.liter na (i + 1))⟩ := fun t' q1 q2 =>
      hJ (t ++ t') _ _ ⟨rfl, trivial⟩ ⟨lenT1 t1 q1, mem2 t2 q2, (upd_ne j3).trans j1, upd_same, j3, j4, j5.upd j4⟩
    have hsz := sign_sz (k := (nv % 24).toNat)
    refine And.intro (by decide) ?_
    by_cases h12 : nv % 24 = 12
    · (conv => whnf)
      refine brT (decide_eq_true h12) ?_
      refine CallI.mk (CallV.chr (by decide) (by decide) ?_)
      refine And.intro (lenT2 t1 (t' := [233]) (by decide) hi) ?_
      exact fin [233] (by decide) (by decide)
    · (conv => whnf)
      refine brF (decide_eq_false h12) ?_
      refine And.intro (by decide) ?_
      refine Exists.intro _ (And.intro (.inl (.inl ⟨_, _, rfl, rfl, hm0, p60 hm1, sign_at hm0 hm1⟩)) ?_)
      refine And.intro (lenT2 t1 hsz.1 hi) ?_
      exact fin _ hsz.1 hsz.2
  · intro it t H hP
    obtain ⟨t1, t2, j1, j2, j3, j4, j5⟩ := hP
    rw [List.length_map] at t1
    refine And.intro ⟨mul5 hl t1, by decide⟩ ?_
    exact hQ _ _ (cut40 t2).1 (cut40 t2).2 (j5.del j4)

noncomputable def pcV (q : Pc) : V := .tup [.str q.k.s, .int q.st, .int q.en, .str q.val, .bool q.esc]
noncomputable def natV (n : Nat) : V := .int n
noncomputable def allK : List Kd := [.blank, .lpar, .rpar, .line, .comment, .quoted, .close, .word, .ends, .torn, .over]
theorem ks_inj {k K : Kd} (h : k.s = K.s) : k = K := by
  have q : (allK.all fun k => allK.all fun K => decide (k.s = K.s → k = K)) = true := by decide +kernel
  have m : ∀ k : Kd, k ∈ allK := fun k => by cases k <;> decide
  exact of_decide_eq_true (List.all_eq_true.mp (List.all_eq_true.mp q k (m k)) K (m K)) h
theorem ksT {k : Kd} (K : Kd) (h : k = K) : decide (k.s = K.s) = true := by subst h; exact decide_eq_true rfl
theorem ksF {k : Kd} (K : Kd) (h : ¬ k = K) : decide (k.s = K.s) = false := decide_eq_false fun e => h (ks_inj e)
theorem pc_at {ps : List Pc} {i : Nat} (h : i < ps.length) : (ps.map pcV)[((i : Int)).toNat]? = some (pcV (ps.getD i pcD)) := by simp [List.getD, h]
theorem p60n {i k : Nat} (h : i < k) (hk : k ≤ 200) : (i : Int) < 2 ^ 60 := by omega
theorem itPc {H : Hp} {p : Addr} {ps : List Pc} {i : Nat} (hH : H p = some (.list (ps.map pcV))) (hi : i < ps.length) (hl : ps.length ≤ 200) : ItemC c H (.ref p) (.int i) (pcV (ps.getD i pcD)) :=
  .inl (.inr (.inl ⟨p, _, i, rfl, hH, rfl, nn i, p60n hi hl, pc_at hi⟩))
theorem itT {H : Hp} {vs : List V} {z : V} (k : Nat) (hk : Nat.ble k 100 = true) (h : vs[k]? = some z) : ItemC c H (.tup vs) (.int k) z :=
  .inl (.inl ⟨vs, k, rfl, rfl, nn k, by have := Nat.le_of_ble_eq_true hk; omega, h⟩)
theorem ch_at {x : List Nat} {i : Nat} (h : i < x.length) : x[((i : Int)).toNat]? = some (x.getD i 0) := by simp [List.getD, h]
theorem itS {H : Hp} {x : List Nat} {i : Nat} (h : i < x.length) (hl : x.length ≤ 40) : ItemC c H (.str x) (.int i) (.str [x.getD i 0]) :=
  .inl (.inr (.inr (.inr ⟨x, i, _, rfl, rfl, nn i, p60n h (Nat.le_trans hl (by decide)), ch_at h, rfl⟩)))
theorem past_st {ps : List Pc} {d n i : Nat} (h : ¬ ((ps.getD i pcD).k = .blank ∨ (0 < d ∧ (ps.getD i pcD).k = .line))) : past ps d (n + 1) i = i := if_neg h
theorem past_go {ps : List Pc} {d n i : Nat} (h : (ps.getD i pcD).k = .blank ∨ (0 < d ∧ (ps.getD i pcD).k = .line)) : past ps d (n + 1) i = past ps d n (i + 1) := if_pos h
theorem past_ar {i j n : Nat} (h : i ≤ j) (ne : i ≠ j) (h2 : j - i < n + 1) : i + 1 ≤ j ∧ j - (i + 1) < n := by omega
theorem past_spec (P : Params) (K : c.Ok) (hK : c.K = KK P) (hc : c.Calls 1) {Q : V → St → Prop} {p : Addr} {ps : List Pc} {i d j : Nat} {iz dz : Int} (hi : iz = i) (hd : dz = d) (hH : σ.H p = some (.list (ps.map pcV))) (hij : i ≤ j) (hj : j < ps.length)
   (hk : (ps.getD j pcD).k ≠ .blank ∧ (ps.getD j pcD).k ≠ .line) (hl : ps.length ≤ 200) (hQ : Q (.int (past ps d FUEL i)) σ) : CallV c (.ref 493) [.ref p, .int iz, .int dz] [] [] σ Q := by
  subst hi hd
  refine (pastF P).call (k := 0) K hK hc (.all rfl fun s us _ h => ?_) fun c' r hc' hK' hX' => ?_
  · obtain ⟨u1, u2, u3, rfl⟩ := len3 h
    exact BindsTo.of_eq rfl
  refine RunI.whl (G := Nat) r (by decide +kernel) (fun i' => [(.kpieces, .ref p), (.kat, .int i'), (.kdepth, .int d)]) (fun n i' H => H = σ.H ∧ i' ≤ j ∧ j - i' < n ∧ past ps d n i' = past ps d FUEL i) FUEL i ⟨rfl, rfl, rfl, trivial⟩
    ⟨rfl, hij, Nat.lt_of_le_of_lt (Nat.sub_le _ _) (Nat.lt_of_lt_of_le hj hl), rfl⟩ ?_
  intro n i' H hP J T hN _ _ hT _
  obtain _ | n := n
  · exact absurd hP.2.2.1 (Nat.not_lt_zero _)
  have hi : i' < ps.length := Nat.lt_of_le_of_lt hP.2.1 hj
  have hH' : H p = some (.list (ps.map pcV)) := by rw [hP.1]; exact hH
  have go : (ps.getD i' pcD).k = .blank ∨ (0 < d ∧ (ps.getD i' pcD).k = .line) → J .next ⟨[(.kpieces, .ref p), (.kat, .int ((i' : Int) + 1)), (.kdepth, .int d)], H⟩ := fun h => by
    have ar := past_ar hP.2.1 (fun e => by subst e; exact h.elim hk.1 fun q => hk.2 q.2) hP.2.2.1
    exact hN n (i' + 1) _ H (Nat.lt_succ_self n) ⟨rfl, rfl, rfl, trivial⟩ ⟨hP.1, ar.1, ar.2, (past_go h).symm.trans hP.2.2.2⟩
  have stop : ¬ ((ps.getD i' pcD).k = .blank ∨ (0 < d ∧ (ps.getD i' pcD).k = .line)) → T ⟨[(.kpieces, .ref p), (.kat, .int i'), (.kdepth, .int d)], H⟩ := fun h => by
    refine hT _ ?_
    have e := (past_st h).symm.trans hP.2.2.2
    rw [← e] at hQ
    show Q _ ⟨σ.loc, H⟩
    rw [hP.1]
    exact hQ
  refine Exists.intro _ (And.intro (itPc hH' hi hl) ?_)
  refine Exists.intro _ (And.intro (itT 0 rfl rfl) ?_)
  by_cases hb : (ps.getD i' pcD).k = .blank
  · (conv => whnf)
    exact brT (ksT .blank hb) (go (.inl hb))
  (conv => whnf)
  refine brF (ksF .blank hb) ?_
  by_cases hd : 0 < d
  · (conv => whnf)
    refine brT (decide_eq_true (gt0 hd)) ?_
    refine Exists.intro _ (And.intro (itPc hH' hi hl) ?_)
    refine Exists.intro _ (And.intro (itT 0 rfl rfl) ?_)
    by_cases hb2 : (ps.getD i' pcD).k = .line
    · (conv => whnf)
      exact brT (ksT .line hb2) (go (.inr ⟨hd, hb2⟩))
    · (conv => whnf)
      exact brF (ksF .line hb2) (stop fun h => h.elim hb fun q => hb2 q.2)
  · (conv => whnf)
    exact brF (decide_eq_false (gt0' hd)) (stop fun h => h.elim hb fun q => hd q.1)

noncomputable def STOPS (b : Bool) : List Nat := cond b STOP1 STOP2
theorem stops_in {n : Nat} (hn : n < 256) (b : Bool) : Txt.contains ⟨(STOPS b).toArray⟩ ⟨#[n]⟩ = stopsIn b n := by
  cases b
  · exact stop_at hn (l := STOP2) (by decide)
  · exact stop_at hn (l := STOP1) (by decide)
noncomputable abbrev BL_ (x : List Nat) (a : Nat) (ins : Bool) (la : Addr) (stop : Nat) (esc : Bool) : List (N × V) :=
  [(.ktext, .str x), (.kat, .int a), (.kinside, .bool ins), (.kstop, .int stop), (.kstoppers, .str (STOPS ins)), (.kescaped, .bool esc), (.klines, .ref la)]
/-- what body's end asks -/
structure BF (c' : Cx) (x : List Nat) (la : Addr) (H₀ : Hp) (R : Kd × Nat × Bool × List Nat) (J : Fl → St → Prop) : Prop where
  hl : x.length ≤ 40
  hx : ∀ i, x.getD i 0 < 256
  n : H₀ la = none
  fin : ∀ k s e ls l H, R = (k, s, e, ls) → H la = some (.list (ls.map natV)) → Kpa H₀ H → J (.ret (.tup [.str k.s, .int s, .bool e, .ref la])) ⟨l, H⟩
section
variable {P : Params} {c' : Cx} {x : List Nat} {a : Nat} {ins : Bool} {la : Addr} {H₀ : Hp} {R : Kd × Nat × Bool × List Nat} {J : Fl → St → Prop}
theorem app_n {ls : List Nat} {s : Nat} : ls.map natV ++ [.int (s : Int)] = (ls ++ [s]).map natV := by rw [List.map_append]; rfl
theorem ln_ok {ls : List Nat} {s : Nat} (h : ls.length ≤ s) (h2 : s ≤ 40) : (ls.map natV).length ≤ 1000000 := by rw [List.length_map]; omega
/-- a line's end is noted -/
theorem BF.app (F : BF c' x la H₀ R J) {l : List (N × V)} {H : Hp} {ls : List Nat} {s : Nat} (hH : H la = some (.list (ls.map natV))) (hk : Kpa H₀ H) (hn : (ls.map natV).length ≤ 1000000) {K : V → St → Prop}
    (h : ∀ H', H' la = some (.list ((ls ++ [s]).map natV)) → Kpa H₀ H' → K .none ⟨l, H'⟩) : CallI c' (.bi "list.append") [.ref la, .int s] [] [] ⟨l, H⟩ K :=
  ⟨CallV.append (σ := ⟨l, H⟩) hH hn (h _ (upd_same.trans (by rw [app_n])) (hk.upd F.n))⟩
theorem eqN {i j : Nat} (h : i = j) : decide ((i : Int) = (j : Int)) = true := decide_eq_true (by rw [h])
theorem neN {i j : Nat} (h : ¬ i = j) : decide ((i : Int) = (j : Int)) = false := decide_eq_false fun e => h (Int.ofNat.inj e)
theorem ltT {i j : Nat} (h : i < j) : decide ((i : Int) < (j : Int)) = true := decide_eq_true (Int.ofNat_lt.mpr h)
theorem ltF {i j : Nat} (h : ¬ i < j) : decide ((i : Int) < (j : Int)) = false := decide_eq_false fun e => h (Int.ofNat_lt.mp e)
theorem chT {m k : Nat} (h : m = k) : decide ([m] = [k]) = true := decide_eq_true (by rw [h])
theorem chF {m k : Nat} (h : ¬ m = k) : decide ([m] = [k]) = false := decide_eq_false fun e => h (by injection e)
theorem l40 {n : Nat} (h : n ≤ 40) : n ≤ 1000000 := Nat.le_trans h (by decide)
/-- behind the loop -/
theorem body_tail (F : BF c' x la H₀ R J) {stop : Nat} {esc : Bool} {ls : List Nat} {H : Hp} (hH : H la = some (.list (ls.map natV))) (hk : Kpa H₀ H) (hs : stop ≤ x.length) (hn : ls.length ≤ stop)
    (he : (if ins = true ∧ stop = x.length then (.ends, stop, esc, ls) else if ins = true ∧ x.getD stop 0 = 10 then (.torn, stop + 1, esc, ls ++ [stop]) else (if ins then .quoted else .word, stop, esc, ls)) = R) :
    (bodyB.drop 5).v c' J ⟨BL_ x a ins la stop esc, H⟩ := by
  cases ins
  · exact F.fin .word stop esc ls _ _ he.symm hH hk
  · refine CallI.mk (CallV.lenS (l40 F.hl) ?_)
    by_cases h1 : stop = x.length
    · (conv => whnf)
      refine brT (eqN h1) ?_
      exact F.fin .ends stop esc ls _ _ (he.symm.trans (if_pos ⟨rfl, h1⟩)) hH hk
    · (conv => whnf)
      refine brF (neN h1) ?_
      have he := (if_neg fun h => h1 h.2).symm.trans he
      refine Exists.intro _ (And.intro (itS (Nat.lt_of_le_of_ne hs h1) F.hl) ?_)
      by_cases h10 : x.getD stop 0 = 10
      · (conv => whnf)
        refine brT (chT h10) ?_
        refine metL hH ?_
        refine F.app hH hk (ln_ok hn (Nat.le_trans hs F.hl)) fun H' g1 g2 => ?_
        exact F.fin .torn (stop + 1) esc _ _ _ (he.symm.trans (if_pos ⟨rfl, h10⟩)) g1 g2
      · (conv => whnf)
        refine brF (chF h10) ?_
        exact F.fin .quoted stop esc ls _ _ (he.symm.trans (if_neg fun h => h10 h.2)) hH hk
theorem bF_s {n s : Nat} {e : Bool} {l : List Nat} (h : ¬ (s < x.length ∧ stopsIn ins (x.getD s 0) = false)) : bodyF x ins (n + 1) s e l =
    (if ins = true ∧ s = x.length then (.ends, s, e, l) else if ins = true ∧ x.getD s 0 = 10 then (.torn, s + 1, e, l ++ [s]) else (if ins then .quoted else .word, s, e, l)) := if_neg h
theorem bF_92 {n s : Nat} {e : Bool} {l : List Nat} (h : s < x.length ∧ stopsIn ins (x.getD s 0) = false) (h2 : x.getD s 0 = 92) : bodyF x ins (n + 1) s e l =
    (if s + 1 = x.length then (.ends, s + 1, true, l) else if (x.getD (s + 1) 0 = 13 ∨ x.getD (s + 1) 0 = 10) ∧ ins = false then (.ends, s + 2, true, l ++ [s + 1])
        else bodyF x ins n (s + 2) true (if x.getD (s + 1) 0 = 10 then l ++ [s + 1] else l)) := (if_pos h).trans (if_pos h2)
theorem crlf {n : Nat} (h : n < 256) : Txt.contains ⟨STOP3.toArray⟩ ⟨#[n]⟩ = decide (n = 13 ∨ n = 10) := by
  rw [stop_at h (l := STOP3) (by decide)]
  simp [STOP3, Bool.decide_or]
theorem ar1 {s n L : Nat} (h : s < L) (h2 : L - s < n + 1) : s + 1 ≤ L ∧ L - (s + 1) < n := by omega
theorem ar2 {s n L : Nat} (h : s < L) (h0 : ¬ s + 1 = L) (h2 : L - s < n + 1) : s + 1 < L ∧ s + 2 ≤ L ∧ L - (s + 2) < n := by omega
theorem lsa {ls : List Nat} {s : Nat} (h : ls.length ≤ s) : (ls ++ [s + 1]).length ≤ s + 2 := by rw [List.length_append, List.length_singleton]; omega
noncomputable abbrev bodyL : B := (bodyB.s 4).b1
/-- the loop -/
theorem body_loop (r : Rdy c' bodyN) (F : BF c' x la H₀ R J) {l : List (N × V)} {H : Hp} {s₀ : Nat} (hH : H la = some (.list [])) (hk : Kpa H₀ H) (hs : s₀ ≤ x.length) (he : bodyF x ins FUEL s₀ false [] = R) (h0 : subL l (BL_ x a ins la s₀ false)) :
    RunI c' (bodyB.s 4) ⟨l, H⟩ (seqV ((bodyB.drop 5).v c' J) J) := by
  refine RunI.whl (G := Nat × Bool × List Nat) r (by decide +kernel) (fun g => BL_ x a ins la g.1 g.2.1) (fun n g H => H la = some (.list (g.2.2.map natV)) ∧ Kpa H₀ H ∧ g.1 ≤ x.length ∧ x.length - g.1 < n ∧ g.2.2.length ≤ g.1 ∧ bodyF x ins n g.1 g.2.1 g.2.2 = R) FUEL (s₀, false, []) h0
    ⟨hH, hk, hs, Nat.lt_of_le_of_lt (Nat.sub_le _ _) (Nat.lt_of_le_of_lt F.hl (by decide)), Nat.zero_le _, he⟩ ?_
  intro n g H1 hP J1 T hN _ _ hT hR
  obtain ⟨q1, q2, q3, q4, q5, q6⟩ := hP
  obtain _ | n := n
  · exact absurd q4 (Nat.not_lt_zero _)
  have stop : ¬ (g.1 < x.length ∧ stopsIn ins (x.getD g.1 0) = false) → T ⟨BL_ x a ins la g.1 g.2.1, H1⟩ := fun h => hT _ (body_tail F q1 q2 q3 q5 ((bF_s h).symm.trans q6))
  refine CallI.mk (CallV.lenS (l40 F.hl) ?_)
  by_cases hs : g.1 < x.length
  · (conv => whnf)
    refine brT (ltT hs) ?_
    refine Exists.intro _ (And.intro (itS hs F.hl) ?_)
    refine Exists.intro _ (Exists.intro _ (And.intro ⟨rfl, stops_in (F.hx _) ins⟩ ?_))
    by_cases hst : stopsIn ins (x.getD g.1 0) = false
    · (conv => whnf)
      refine brT (by rw [hst]; rfl) ?_
      refine Exists.intro _ (And.intro (itS hs F.hl) ?_)
      by_cases h92 : x.getD g.1 0 = 92
      · (conv => whnf)
        refine brT (chT h92) ?_
        have q6 := (bF_92 ⟨hs, hst⟩ h92).symm.trans q6
        refine CallI.mk (CallV.lenS (l40 F.hl) ?_)
        by_cases he : g.1 + 1 = x.length
        · (conv => whnf)
          refine brT (eqN he) ?_
          exact hR _ _ (F.fin .ends (g.1 + 1) true _ _ _ (q6.symm.trans (if_pos he)) q1 q2)
        (conv => whnf)
        refine brF (neN he) ?_
        have q6 := (if_neg he).symm.trans q6
        have ar := ar2 hs he q4
        refine Exists.intro _ (And.intro (itS ar.1 F.hl) ?_)
        refine Exists.intro _ (Exists.intro _ (And.intro ⟨rfl, crlf (F.hx _)⟩ ?_))
        have more : ¬ ((x.getD (g.1 + 1) 0 = 13 ∨ x.getD (g.1 + 1) 0 = 10) ∧ ins = false) → ∀ K : Fl → St → Prop, (∀ σ, (bodyL.drop 1).v c' J1 σ → K .next σ) → ((bodyL.s 0).b1.drop 4).v c' K ⟨BL_ x a ins la (g.1 + 1) true, H1⟩ := fun h K hK => by
          have q6 := (if_neg h).symm.trans q6
          refine Exists.intro _ (And.intro (itS ar.1 F.hl) ?_)
          by_cases h10 : x.getD (g.1 + 1) 0 = 10
          · (conv => whnf)
            refine brT (chT h10) ?_
            refine metL q1 ?_
            refine F.app (s := g.1 + 1) q1 q2 (ln_ok q5 (Nat.le_trans q3 F.hl)) fun H' g1 g2 => ?_
            exact hK _ (hN n (g.1 + 2, true, g.2.2 ++ [g.1 + 1]) _ H' (Nat.lt_succ_self n) ⟨rfl, rfl, rfl, rfl, rfl, rfl, rfl, trivial⟩ ⟨g1, g2, ar.2.1, ar.2.2, lsa q5, (by rw [if_pos h10] at q6; exact q6)⟩)
          · (conv => whnf)
            refine brF (chF h10) ?_
            exact hK _ (hN n (g.1 + 2, true, g.2.2) _ H1 (Nat.lt_succ_self n) ⟨rfl, rfl, rfl, rfl, rfl, rfl, rfl, trivial⟩ ⟨q1, q2, ar.2.1, ar.2.2, Nat.le_trans q5 (Nat.le_add_right _ 2), (by rw [if_neg h10] at q6; exact q6)⟩)
        by_cases h13 : x.getD (g.1 + 1) 0 = 13 ∨ x.getD (g.1 + 1) 0 = 10
        · (conv => whnf)
          refine brT (decide_eq_true h13) ?_
          cases ins
          · refine metL q1 ?_
            refine F.app (s := g.1 + 1) q1 q2 (ln_ok q5 (Nat.le_trans q3 F.hl)) fun H' g1 g2 => ?_
            exact hR _ _ (F.fin .ends (g.1 + 2) true _ _ _ (q6.symm.trans (if_pos ⟨h13, rfl⟩)) g1 g2)
          · exact more (fun h => by cases h.2) _ fun _ q => q
        · (conv => whnf)
          refine brF (decide_eq_false h13) ?_
          exact more (fun h => h13 h.1) _ fun _ q => q
      · (conv => whnf)
        refine brF (chF h92) ?_
        have ar := ar1 hs q4
        exact hN n (g.1 + 1, g.2.1, g.2.2) _ H1 (Nat.lt_succ_self n) ⟨rfl, rfl, rfl, rfl, rfl, rfl, rfl, trivial⟩ ⟨q1, q2, ar.1, ar.2, Nat.le_succ_of_le q5, (bF_go hs hst h92).symm.trans q6⟩
    · (conv => whnf)
      refine brF (notT' hst) ?_
      exact stop fun h => hst h.2
  · (conv => whnf)
    refine brF (ltF hs) ?_
    exact stop fun h => hs h.1
theorem body_spec (P : Params) (K : c.Ok) (hK : c.K = KK P) (hc : c.Calls 1) {Q : V → St → Prop} (hx : ∀ i, x.getD i 0 < 256) (hl : x.length ≤ 40) (ha : a < x.length)
   (hQ : ∀ la H' k s e ls, bodyF x ins FUEL (if ins then a + 1 else a) false [] = (k, s, e, ls) → H' la = some (.list (ls.map natV)) → Kpa σ.H H' → σ.H la = none → Q (.tup [.str k.s, .int s, .bool e, .ref la]) ⟨σ.loc, H'⟩) : CallV c (.ref 479) [.str x, .int a, .bool ins] [] [] σ Q := by
  refine (bodyF' P).call (k := 0) K hK hc (.all rfl fun s us _ h => ?_) fun c' r hc' hK' hX' => ?_
  · obtain ⟨u1, u2, u3, rfl⟩ := len3 h
    exact BindsTo.of_eq rfl
  have lo : ∀ la (hla : σ.H la = none) l s₀, s₀ = (if ins then a + 1 else a) → s₀ ≤ x.length → subL l (BL_ x a ins la s₀ false) → RunI c' (bodyB.s 4) ⟨l, σ.H.upd la (.list [])⟩ (seqV ((bodyB.drop 5).v c' (retK σ.loc Q)) (retK σ.loc Q)) := fun la hla l s₀ e hs h0 =>
    body_loop (R := bodyF x ins FUEL (if ins then a + 1 else a) false []) (H₀ := σ.H) r ⟨hl, hx, hla, fun k s e ls l H h1 h2 h3 => hQ la H k s e ls h1 h2 h3 hla⟩ upd_same ((Kpa.refl _).new hla) hs (by rw [e]) h0
  cases ins
  · intro la hla
    exact lo la hla _ a rfl (Nat.le_of_lt ha) ⟨rfl, rfl, rfl, rfl, rfl, rfl, rfl, trivial⟩
  · intro la hla
    exact lo la hla _ (a + 1) rfl ha ⟨rfl, rfl, rfl, rfl, rfl, rfl, rfl, trivial⟩
end

noncomputable def sdV (s : Sd) : V := .tup [.int s.1, .str s.2.1, .bool s.2.2.1, comV s.2.2.2]
noncomputable def vdW : Vd → V
  | .fine _ => .str []
  | .synt => .str [115, 121, 110, 116, 97, 120]
  | .ended => .str [101, 110, 100]
noncomputable def vdS : Vd → V
  | .fine s => sdV s
  | _ => .none
noncomputable def nxV (b : Vd × Nat × Nat × Nat) : V := .tup [vdW b.1, vdS b.1, .int b.2.1, .int b.2.2.1, .int b.2.2.2]
theorem nL_blank {ps : List Pc} {note : Bool} {g i d s en : Nat} {v : List Nat} {q : Bool} (e : ps.getD i pcD = ⟨.blank, s, en, v, q⟩) : nextL ps note (g + 1) i d = (.fine (4, v, q, none), i + 1, d, en + 1) := by rw [nextL, e]; rfl
theorem good_last {ps : List Pc} (g : Good ps) : ∃ j, j + 1 = ps.length ∧ (ps.getD j pcD).k ≠ .blank ∧ (ps.getD j pcD).k ≠ .line := by
  cases hn : ps.length with
  | zero => rw [List.length_eq_zero_iff] at hn; subst hn; exact g.elim
  | succ j =>
    refine ⟨j, rfl, ?_⟩
    cases hk : (ps.getD j pcD).k.last with
    | false => have := good_at g (by omega) hk; omega
    | true => exact ⟨fun q => (by rw [q] at hk; cases hk), fun q => (by rw [q] at hk; cases hk)⟩
theorem past_le {ps : List Pc} {d j : Nat} (hj : (ps.getD j pcD).k ≠ .blank ∧ (ps.getD j pcD).k ≠ .line) : ∀ (g i : Nat), i ≤ j → i ≤ past ps d g i ∧ past ps d g i ≤ j
  | 0, i, h => ⟨Nat.le_refl _, h⟩
  | g + 1, i, h => by
    rw [past]
    split
    · rename_i q
      have : i ≠ j := fun e => by
        subst e
        rcases q with q | q
        · exact hj.1 q
        · exact hj.2 q.2
      have := past_le (d := d) hj g (i + 1) (by omega)
      omega
    · exact ⟨Nat.le_refl _, h⟩


theorem itPc' {H : Hp} {p : Addr} {ps : List Pc} {i : Nat} {iz : Int} {q : Pc} (hH : H p = some (.list (ps.map pcV))) (hi : i < ps.length) (hl : ps.length ≤ 200) (hp : ps.getD i pcD = q) (e : iz = i) : ItemC c H (.ref p) (.int iz) (pcV q) := by
  subst hp e; exact itPc hH hi hl
noncomputable abbrev NL (p : Addr) (note : Bool) (i d : Nat) : List (N × V) := [(.kpieces, .ref p), (.kdepth, .int d), (.knote, .bool note), (.kat, .int i)]
section
variable {P : Params} {c' : Cx} {p : Addr} {ps : List Pc} {note : Bool} {Q : V → St → Prop} {l₀ : List (N × V)}
theorem d0T {d : Nat} (h : d = 0) : decide ((d : Int) = 0) = true := decide_eq_true (c0 h)
/-- behind the loop -/
theorem next_tail {n i d : Nat} {H : Hp} (hH : H p = some (.list (ps.map pcV))) (hl : ps.length ≤ 200) (hi : i < ps.length) {q : Pc} (hp : ps.getD i pcD = q) (hk : q.k = .blank ∨ q.k = .line ∨ q.k = .quoted ∨ q.k = .word ∨ q.k = .ends ∨ q.k = .torn ∨ q.k = .over)
    (hQ : Q (nxV (nextL ps note (n + 1) i d)) ⟨l₀, H⟩) : (nextB.drop 3).v c' (retK l₀ Q) ⟨NL p note i d, H⟩ := by
  obtain ⟨k, s, en, v, e⟩ := q
  refine Exists.intro _ (And.intro (itPc' hH hi hl hp rfl) ?_)
  cases k with
  | blank => rw [nL_blank hp] at hQ; exact hQ
  | line => rw [nL_line hp] at hQ; exact hQ
  | quoted => rw [nL_quoted hp] at hQ; exact hQ
  | word => rw [nL_word hp] at hQ; exact hQ
  | ends => rw [nL_ends hp] at hQ; exact hQ
  | torn => rw [nL_torn hp] at hQ; exact hQ
  | over =>
    by_cases h0 : 0 < d
    · obtain ⟨d', rfl⟩ : ∃ d', d = d' + 1 := ⟨d - 1, (Nat.succ_pred_eq_of_pos h0).symm⟩
      rw [nL_over hp] at hQ
      (conv => whnf)
      refine brT (decide_eq_true (gt0 h0)) ?_
      exact hQ
    · obtain rfl : d = 0 := Nat.eq_zero_of_not_pos h0
      rw [nL_over0 hp] at hQ
      exact hQ
  | _ => simp at hk
theorem cast_m1 {m : Nat} : (((m + 1 : Nat) : Int) - 1) = (m : Int) := by omega
theorem p1 {i : Nat} : (i : Int) + 1 = ((i + 1 : Nat) : Int) := rfl
theorem nx_ar {i j n q : Nat} (h1 : i + 1 ≤ q) (h2 : q ≤ j) (h3 : j - i < n + 1) (h4 : i < j) : j - q < n := by omega
theorem next_loop (r : Rdy c' nextN) (hK : c'.K = KK P) (hc : c'.Calls 1) {l : List (N × V)} {H : Hp} {i₀ d₀ j : Nat} (hH : H p = some (.list (ps.map pcV))) (hg : Good ps) (hl : ps.length ≤ 200) (hj : j + 1 = ps.length) (hjk : (ps.getD j pcD).k ≠ .blank ∧ (ps.getD j pcD).k ≠ .line)
    (hi : i₀ ≤ j) (hQ : Q (nxV (nextL ps note FUEL i₀ d₀)) ⟨l₀, H⟩) (h0 : subL l (NL p note i₀ d₀)) : RunI c' (nextB.s 2) ⟨l, H⟩ (seqV ((nextB.drop 3).v c' (retK l₀ Q)) (retK l₀ Q)) := by
  refine RunI.whl (G := Nat × Nat) r (by decide +kernel) (fun g => NL p note g.1 g.2) (fun n g H' => H' = H ∧ g.1 ≤ j ∧ j - g.1 < n ∧ nextL ps note n g.1 g.2 = nextL ps note FUEL i₀ d₀) FUEL (i₀, d₀) h0
    ⟨rfl, hi, Nat.lt_of_le_of_lt (Nat.sub_le _ _) (Nat.lt_of_lt_of_le (by rw [← hj]; exact Nat.lt_succ_self j) hl), rfl⟩ ?_
  intro n g H' hP J T hN _ _ hT hR
  obtain ⟨i, d⟩ := g
  obtain ⟨rfl, q2, q3, q4⟩ := hP
  dsimp only at q2 q3 q4
  obtain _ | n := n
  · exact absurd q3 (Nat.not_lt_zero _)
  have hi : i < ps.length := by rw [← hj]; exact Nat.lt_succ_of_le q2
  generalize hp : ps.getD i pcD = q at *
  have hit : ItemC c' H' (.ref p) (.int i) (pcV q) := itPc' hH hi hl hp rfl
  have tail : (q.k = .blank ∨ q.k = .line ∨ q.k = .quoted ∨ q.k = .word ∨ q.k = .ends ∨ q.k = .torn ∨ q.k = .over) → T ⟨NL p note i d, H'⟩ := fun hk => hT _ (next_tail (n := n) hH hl hi hp hk (by rw [q4]; exact hQ))
  have ret : ∀ R l, nextL ps note (n + 1) i d = R → J (.ret (nxV R)) ⟨l, H'⟩ := fun R l e => hR _ _ (by rw [← e, q4]; exact hQ)
  have hlt : q.k.last = false → i < j := fun h => by
    have := good_at hg hi (by rw [hp]; exact h)
    exact Nat.lt_of_succ_lt_succ (Nat.lt_of_lt_of_eq this hj.symm)
  have past' : ∀ (d' : Nat) (dz : Int) (l : List (N × V)) (K : V → St → Prop), q.k.last = false → dz = d' → K (.int (past ps d' FUEL (i + 1))) ⟨l, H'⟩ → CallI c' (.ref 493) [.ref p, .int ((i : Int) + 1), .int dz] [] [] ⟨l, H'⟩ K := fun d' dz l K hk e h =>
    ⟨past_spec P r.K hK (Cx.Calls.le hc (by decide)) (σ := ⟨l, H'⟩) (i := i + 1) (j := j) rfl e hH (hlt hk) (by rw [← hj]; exact Nat.lt_succ_self j) hjk hl h⟩
  have go : ∀ (d' : Nat) (l : List (N × V)), q.k.last = false → nextL ps note (n + 1) i d = nextL ps note n (past ps d' FUEL (i + 1)) d' → subL l (NL p note (past ps d' FUEL (i + 1)) d') → J .next ⟨l, H'⟩ := fun d' l hk e hs => by
    have pl := past_le (d := d') hjk FUEL (i + 1) (hlt hk)
    exact hN n (past ps d' FUEL (i + 1), d') l H' (Nat.lt_succ_self n) hs ⟨rfl, pl.2, nx_ar pl.1 pl.2 q3 (hlt hk), e.symm.trans q4⟩
  clear hQ hN hR hT q4
  refine Exists.intro _ (And.intro hit ?_)
  obtain ⟨k, s, en, v, e⟩ := q
  refine Exists.intro _ (And.intro (itT 0 rfl rfl) ?_)
  cases k with
  | lpar =>
    refine Exists.intro _ (And.intro hit ?_)
    refine past' (d + 1) _ _ _ rfl rfl ?_
    exact go (d + 1) _ rfl (nL_lpar hp) ⟨rfl, rfl, rfl, rfl, trivial⟩
  | rpar =>
    refine Exists.intro _ (And.intro hit ?_)
    by_cases h0 : d = 0
    · (conv => whnf)
      refine brT (d0T h0) ?_
      subst h0
      exact ret _ _ (nL_rpar0 hp)
    · obtain ⟨d', rfl⟩ : ∃ d', d = d' + 1 := Nat.exists_eq_succ_of_ne_zero h0
      refine past' d' _ _ _ rfl (cast_m1 (m := d')) ?_
      exact go d' _ rfl (nL_rpar hp) ⟨rfl, congrArg V.int (cast_m1 (m := d')), rfl, rfl, trivial⟩
  | close =>
    refine Exists.intro _ (And.intro hit ?_)
    refine past' d _ _ _ rfl rfl ?_
    exact go d _ rfl (nL_close hp) ⟨rfl, rfl, rfl, rfl, trivial⟩
  | comment =>
    refine Exists.intro _ (And.intro hit ?_)
    cases note with
    | true => exact ret _ _ (nL_cn hp)
    | false =>
      by_cases h0 : d = 0
      · (conv => whnf)
        refine brT (d0T h0) ?_
        have h1 : i + 1 < ps.length := by rw [← hj]; exact Nat.succ_lt_succ (hlt rfl)
        refine Exists.intro _ (And.intro (itPc' hH h1 hl rfl p1) ?_)
        refine Exists.intro _ (And.intro (itT 0 rfl rfl) ?_)
        by_cases h2 : (ps.getD (i + 1) pcD).k = .over
        · (conv => whnf)
          refine brT (ksT .over h2) ?_
          subst h0
          exact ret _ _ (nL_co hp h2)
        · (conv => whnf)
          refine brF (ksF .over h2) ?_
          (conv => whnf)
          refine brT (d0T h0) ?_
          subst h0
          exact ret _ _ (nL_cl hp h2)
      · obtain ⟨d', rfl⟩ : ∃ d', d = d' + 1 := Nat.exists_eq_succ_of_ne_zero h0
        refine past' (d' + 1) _ _ _ rfl rfl ?_
        exact go (d' + 1) _ rfl (nL_ci hp) ⟨rfl, rfl, rfl, rfl, trivial⟩
  | blank => exact tail (.inl rfl)
  | line => exact tail (.inr (.inl rfl))
  | quoted => exact tail (.inr (.inr (.inl rfl)))
  | word => exact tail (.inr (.inr (.inr (.inl rfl))))
  | ends => exact tail (.inr (.inr (.inr (.inr (.inl rfl)))))
  | torn => exact tail (.inr (.inr (.inr (.inr (.inr (.inl rfl))))))
  | over => exact tail (.inr (.inr (.inr (.inr (.inr (.inr rfl))))))
theorem next_spec (P : Params) (K : c.Ok) (hK : c.K = KK P) (hc : c.Calls 2) {b d₀ : Nat} {lead : Bool} (hH : σ.H p = some (.list (ps.map pcV))) (hg : Good ps) (hl : ps.length ≤ 200) (hb : b < ps.length)
   (hQ : Q (nxV (nextP ps lead note b d₀)) σ) : CallV c (.ref 500) [.ref p, .int b, .int d₀, .bool lead, .bool note] [] [] σ Q := by
  refine (nextF P).call (k := 1) K hK hc (.all rfl fun s us _ h => ?_) fun c' r hc' hK' hX' => ?_
  · obtain ⟨u1, u2, u3, u4, u5, rfl⟩ := len5 h
    exact BindsTo.of_eq rfl
  obtain ⟨j, hj, hjk⟩ := good_last hg
  have hbj : b ≤ j := Nat.le_of_lt_succ (by rw [← hj] at hb; exact hb)
  have hjl : j < ps.length := by rw [← hj]; exact Nat.lt_succ_self j
  have pl := past_le (d := d₀) hjk FUEL b hbj
  have lo : ¬ (lead = true ∧ b < past ps d₀ FUEL b) → ∀ l, subL l (NL p note (past ps d₀ FUEL b) d₀) → RunI c' (nextB.s 2) ⟨l, σ.H⟩ (seqV ((nextB.drop 3).v c' (retK σ.loc Q)) (retK σ.loc Q)) := fun h l h0 =>
    next_loop r hK' hc' hH hg hl hj hjk pl.2 (by have e : nextP ps lead note b d₀ = nextL ps note FUEL (past ps d₀ FUEL b) d₀ := if_neg h; rw [← e]; exact hQ) h0
  refine CallI.mk (past_spec P r.K hK' (Cx.Calls.le hc' (by decide)) (j := j) rfl rfl hH hbj hjl hjk hl ?_)
  cases lead
  · exact lo (fun h => by cases h.1) _ ⟨rfl, rfl, rfl, rfl, trivial⟩
  · by_cases h0 : b < past ps d₀ FUEL b
    · (conv => whnf)
      refine brT (ltT h0) ?_
      refine Exists.intro _ (And.intro (itPc hH (Nat.lt_of_le_of_lt pl.2 hjl) hl) ?_)
      refine Exists.intro _ (And.intro (itT 1 rfl rfl) ?_)
      have e : nextP ps true note b d₀ = (.fine (2, [32], false, none), past ps d₀ FUEL b, d₀, (ps.getD (past ps d₀ FUEL b) pcD).st + 1) := if_pos ⟨rfl, h0⟩
      rw [e] at hQ
      exact hQ
    · (conv => whnf)
      refine brF (ltF h0) ?_
      exact lo (fun h => h0 h.2) _ ⟨rfl, rfl, rfl, rfl, trivial⟩
end

/-- the lists of the cut -/
structure PSt (K₀ H : Hp) (pa la : Addr) (ps : List Pc) (ls : List Nat) : Prop where
  p : H pa = some (.list (ps.map pcV))
  l : H la = some (.list (ls.map natV))
  ne : pa ≠ la
  keep : Kpa K₀ H
  pn : K₀ pa = none
  ln : K₀ la = none
theorem map_app {ps : List Pc} {q : Pc} : ps.map pcV ++ [pcV q] = (ps ++ [q]).map pcV := by rw [List.map_append]; rfl
section
variable {K₀ H : Hp} {pa la b : Addr} {ps : List Pc} {ls : List Nat}
theorem PSt.addP (h : PSt K₀ H pa la ps ls) {vs : List V} {q : Pc} (e : vs = ps.map pcV ++ [pcV q]) : PSt K₀ (H.upd pa (.list vs)) pa la (ps ++ [q]) ls :=
  ⟨upd_same.trans (by rw [e, map_app]), (upd_ne h.ne.symm).trans h.l, h.ne, h.keep.upd h.pn, h.pn, h.ln⟩
theorem PSt.addL (h : PSt K₀ H pa la ps ls) {vs : List V} {n : Nat} (e : vs = ls.map natV ++ [natV n]) : PSt K₀ (H.upd la (.list vs)) pa la ps (ls ++ [n]) :=
  ⟨(upd_ne h.ne).trans h.p, upd_same.trans (by rw [e, List.map_append]; rfl), h.ne, h.keep.upd h.ln, h.pn, h.ln⟩
theorem PSt.other {o : O} (h : PSt K₀ H pa la ps ls) (h1 : b ≠ pa) (h2 : b ≠ la) (h3 : K₀ b = none) : PSt K₀ (H.upd b o) pa la ps ls :=
  ⟨(upd_ne h1.symm).trans h.p, (upd_ne h2.symm).trans h.l, h.ne, h.keep.upd h3, h.pn, h.ln⟩
theorem PSt.gone (h : PSt K₀ H pa la ps ls) (h1 : b ≠ pa) (h2 : b ≠ la) (h3 : K₀ b = none) : PSt K₀ (H.del b) pa la ps ls :=
  ⟨(del_ne h1.symm).trans h.p, (del_ne h2.symm).trans h.l, h.ne, h.keep.del h3, h.pn, h.ln⟩
theorem PSt.kpa {H' : Hp} (h : PSt K₀ H pa la ps ls) (k : Kpa H H') : PSt K₀ H' pa la ps ls := ⟨k _ _ h.p, k _ _ h.l, h.ne, h.keep.trans k, h.pn, h.ln⟩
variable {c' : Cx} {l : List (N × V)} {K : V → St → Prop}
theorem PSt.callP (h : PSt K₀ H pa la ps ls) {v : V} {q : Pc} (e : v = pcV q) (hn : ps.length ≤ 1000000) (k : ∀ H', PSt K₀ H' pa la (ps ++ [q]) ls → K .none ⟨l, H'⟩) : CallI c' (.bi "list.append") [.ref pa, v] [] [] ⟨l, H⟩ K :=
  ⟨CallV.append (σ := ⟨l, H⟩) h.p (by rw [List.length_map]; exact hn) (k _ (h.addP (by rw [e])))⟩
theorem PSt.callL (h : PSt K₀ H pa la ps ls) {v : V} {n : Nat} (e : v = natV n) (hn : ls.length ≤ 1000000) (k : ∀ H', PSt K₀ H' pa la ps (ls ++ [n]) → K .none ⟨l, H'⟩) : CallI c' (.bi "list.append") [.ref la, v] [] [] ⟨l, H⟩ K :=
  ⟨CallV.append (σ := ⟨l, H⟩) h.l (by rw [List.length_map]; exact hn) (k _ (h.addL (by rw [e])))⟩
end
theorem getLast_pc {ps : List Pc} {q : Pc} : ((ps ++ [q]).map pcV).getLast? = some (pcV q) := by simp
theorem itLast {H : Hp} {p : Addr} {ps : List Pc} {q : Pc} (hH : H p = some (.list ((ps ++ [q]).map pcV))) (hl : (ps ++ [q]).length ≤ 200) : ItemC c H (.ref p) (.int (-1)) (pcV q) :=
  .inl (.inr (.inr (.inl ⟨p, _, rfl, hH, rfl, by rw [List.length_map]; omega, getLast_pc⟩)))
theorem lkK_of {n : N} {v : V} : ∀ {l : List (N × V)}, lk l n = some v → lkK l n fun w => w = v
  | [], h => by cases h
  | (a, u) :: r, h => by
    unfold lk at h
    unfold lkK
    by_cases e : n = a
    · subst e; rw [decide_eq_true rfl]; rw [if_pos rfl] at h; exact Option.some.inj h
    · rw [decide_eq_false e]; rw [if_neg e] at h; exact lkK_of (l := r) h
theorem putK_mk {n : N} {v : V} : ∀ {l : List (N × V)} {k : List (N × V) → Prop}, k (put l n v) → putK l n v k
  | [], _, h => h
  | (a, u) :: r, k, h => by
    unfold put at h
    unfold putK
    by_cases e : n = a
    · subst e; rw [decide_eq_true rfl]; rw [if_pos rfl] at h; exact h
    · rw [decide_eq_false e]; rw [if_neg e] at h; exact putK_mk (l := r) (k := fun r' => k ((a, u) :: r')) h
theorem lkK_put {l : List (N × V)} {n m : N} {v w : V} (ne : m ≠ n) (h : lkK l m fun u => u = w) : lkK (put l n v) m fun u => u = w := by
  obtain ⟨_, e, rfl⟩ := lkK_ok h
  exact lkK_of (by rw [lk_put, if_neg ne]; exact e)
theorem lkK_self {l : List (N × V)} {n : N} {v : V} : lkK (put l n v) n fun u => u = v := lkK_of (by rw [lk_put, if_pos rfl])
noncomputable abbrev PLs (x : List Nat) (pa la : Addr) (a : Nat) : List (N × V) := [(.ktext, .str x), (.kpieces, .ref pa), (.klines, .ref la), (.kat, .int a)]
noncomputable abbrev PLc (x : List Nat) (pa la : Addr) (a : Nat) (m : Nat) : List (N × V) := [(.ktext, .str x), (.kpieces, .ref pa), (.klines, .ref la), (.kat, .int a), (.ksign, .str [m])]
noncomputable abbrev pcL : B := (piecesB.s 3).b1
/-- what holds at the head of the cut's loop -/
structure PI (H₀ : Hp) (x : List Nat) (pa la : Addr) (R : List Pc × List Nat) (n : Nat) (g : Nat × List Pc × List Nat) (H : Hp) : Prop where
  s : PSt H₀ H pa la g.2.1 g.2.2
  le : g.1 ≤ x.length
  lt : x.length - g.1 < n
  pl : g.2.1.length ≤ 2 * g.1
  ll : g.2.2.length ≤ g.1
  eq : (g.2.1 ++ (pcs x n g.1).1, g.2.2 ++ (pcs x n g.1).2) = R
theorem pcs_go {x : List Nat} {n a : Nat} (h : a < x.length) {s1 : List Pc} {s2 : List Nat} (e : stepP x a = (s1, s2, false)) : pcs x (n + 1) a = (s1 ++ (pcs x n (lastEn s1)).1, s2 ++ (pcs x n (lastEn s1)).2) := by
  rw [pcs, if_pos h, e]; rfl
theorem pcs_st {x : List Nat} {n a : Nat} (h : a < x.length) {s1 : List Pc} {s2 : List Nat} (e : stepP x a = (s1, s2, true)) : pcs x (n + 1) a = (s1, s2) := by
  rw [pcs, if_pos h, e]; rfl
theorem lastEn_app {s : List Pc} {q : Pc} : lastEn (s ++ [q]) = q.en := by unfold lastEn; simp
theorem pi_ar {p s e a L n : Nat} (h1 : a < e) (h2 : e ≤ L) (h3 : L - a < n + 1) : L - e < n := by omega
theorem pi_ar2 {p s e a : Nat} (h1 : a < e) (h2 : p ≤ 2 * a) (h3 : s ≤ 2 * (e - a)) : p + s ≤ 2 * e := by omega
theorem pi_ar3 {p s e a : Nat} (h1 : a < e) (h2 : p ≤ a) (h3 : s ≤ e - a) : p + s ≤ e := by omega
section
variable {P : Params} {c' : Cx} {x : List Nat} {pa la : Addr} {H₀ : Hp} {R : List Pc × List Nat} {J : Fl → St → Prop} {n a : Nat} {ps : List Pc} {ls : List Nat}
theorem PI.next {H H' : Hp} (h : PI H₀ x pa la R (n + 1) (a, ps, ls) H) (hx : x.length ≤ 40) (ha : a < x.length) {s0 : List Pc} {q : Pc} {s2 : List Nat} (e : stepP x a = (s0 ++ [q], s2, false)) (hS : PSt H₀ H' pa la (ps ++ (s0 ++ [q])) (ls ++ s2)) :
    PI H₀ x pa la R n (q.en, ps ++ (s0 ++ [q]), ls ++ s2) H' := by
  have hA := step_ok ha hx
  obtain ⟨z1, z2, _, _, _⟩ := step_sz ha hx
  rw [e] at hA z1 z2
  obtain ⟨A1, A2, _⟩ := hA
  dsimp only at A1 A2 z1 z2
  rw [lastEn_app] at A1 A2 z1 z2
  have e2 := pcs_go (n := n) ha e
  rw [lastEn_app] at e2
  have e3 := h.eq
  dsimp only at e3
  rw [e2] at e3
  refine ⟨hS, A2, pi_ar (p := 0) (s := 0) A1 A2 h.lt, ?_, ?_, ?_⟩
  · show (ps ++ (s0 ++ [q])).length ≤ 2 * q.en
    rw [List.length_append]; exact pi_ar2 A1 h.pl z1
  · show (ls ++ s2).length ≤ q.en
    rw [List.length_append]; exact pi_ar3 A1 h.ll z2
  · show ((ps ++ (s0 ++ [q])) ++ _, (ls ++ s2) ++ _) = R
    rw [List.append_assoc, List.append_assoc ls]; exact e3
theorem PI.stop {H H' : Hp} (h : PI H₀ x pa la R (n + 1) (a, ps, ls) H) (ha : a < x.length) {s1 : List Pc} {s2 : List Nat} (e : stepP x a = (s1, s2, true)) (hS : PSt H₀ H' pa la (ps ++ s1) (ls ++ s2)) : PSt H₀ H' pa la R.1 R.2 := by
  have e3 := h.eq
  dsimp only at e3
  rw [pcs_st ha e] at e3
  rw [← e3]
  exact hS
/-- the end of a round -/
theorem pc_end {l : List (N × V)} {H : Hp} {q : Pc} {ps' : List Pc} {ls' : List Nat} (hs : subL l (PLs x pa la a)) (hS : PSt H₀ H pa la (ps' ++ [q]) ls') (hl : (ps' ++ [q]).length ≤ 200) (hJ : ∀ l, subL l (PLs x pa la q.en) → J .next ⟨l, H⟩) : (pcL.drop 2).v c' J ⟨l, H⟩ := by
  refine lkK_mono (fun v e => ?_) hs.2.1
  subst e
  refine Exists.intro _ (And.intro (itLast hS.p hl) ?_)
  refine Exists.intro _ (And.intro (itT 2 rfl rfl) ?_)
  refine putK_mk ?_
  exact hJ _ ⟨lkK_put (by decide) hs.1, lkK_put (by decide) hs.2.1, lkK_put (by decide) hs.2.2.1, lkK_self, trivial⟩
/-- what a round may give -/
structure PG (c' : Cx) (x : List Nat) (pa la : Addr) (H₀ : Hp) (ps : List Pc) (ls : List Nat) (a : Nat) (M : St → Prop) (J : Fl → St → Prop) : Prop where
  hx : ∀ i, x.getD i 0 < 256
  hl : x.length ≤ 40
  ha : a < x.length
  hp : ps.length ≤ 80
  hls : ls.length ≤ 40
  go : ∀ (s0 : List Pc) (q : Pc) (s2 : List Nat) l H, stepP x a = (s0 ++ [q], s2, false) → PSt H₀ H pa la (ps ++ (s0 ++ [q])) (ls ++ s2) → subL l (PLs x pa la a) → M ⟨l, H⟩
  st : ∀ (s1 : List Pc) (s2 : List Nat) l H, stepP x a = (s1, s2, true) → PSt H₀ H pa la (ps ++ s1) (ls ++ s2) → J (.ret (.tup [.ref pa, .ref la])) ⟨l, H⟩
theorem l80 {n : Nat} (h : n ≤ 80) : n ≤ 1000000 := Nat.le_trans h (by decide)
end

section
variable {P : Params} {c' : Cx} {x : List Nat} {pa la : Addr} {H₀ : Hp} {J : Fl → St → Prop} {M : St → Prop} {a m : Nat} {ps : List Pc} {ls : List Nat}
noncomputable abbrev pcI : S := pcL.s 1
noncomputable abbrev pcC : B := (((pcI.b2.s 0).b2.s 0).b2.s 0).b1
noncomputable abbrev pcW : B := (((pcI.b2.s 0).b2.s 0).b2.s 0).b2
theorem st_c (h32 : ¬ x.getD a 0 = 32) (h9 : ¬ x.getD a 0 = 9) (h40 : ¬ x.getD a 0 = 40) (h41 : ¬ x.getD a 0 = 41) (h13 : ¬ x.getD a 0 = 13) (h10 : ¬ x.getD a 0 = 10) (h59 : ¬ x.getD a 0 = 59) : stepP x a =
    (let ins := x.getD a 0 == 34
     let b := bodyF x ins FUEL (if ins then a + 1 else a) false []
     if b.1 = .quoted then ([⟨.quoted, a, b.2.1, seg x (a + 1) b.2.1, b.2.2.1⟩, ⟨.close, b.2.1, b.2.1 + 1, [], false⟩], b.2.2.2, false)
     else ([⟨b.1, a, b.2.1, seg x a b.2.1, b.2.2.1⟩], b.2.2.2, b.1 = .ends ∨ b.1 = .torn)) :=
  (if_neg fun h => h.elim h32 h9).trans ((if_neg h40).trans ((if_neg h41).trans ((if_neg fun h => h.elim h13 h10).trans (if_neg h59))))
theorem st_l (h32 : ¬ x.getD a 0 = 32) (h9 : ¬ x.getD a 0 = 9) (h40 : ¬ x.getD a 0 = 40) (h41 : ¬ x.getD a 0 = 41) (h : x.getD a 0 = 13 ∨ x.getD a 0 = 10) : stepP x a =
    ([⟨.line, a, if seg x a (a + 2) = [13, 10] then a + 2 else a + 1, [], false⟩], [a], false) :=
  (if_neg fun h => h.elim h32 h9).trans ((if_neg h40).trans ((if_neg h41).trans (if_pos h)))
theorem cs_go {n s : Nat} (h : s < x.length ∧ [13, 10].contains (x.getD s 0) = false) : comStop x (n + 1) s = comStop x n (s + 1) := if_pos h
theorem cs_st {n s : Nat} (h : ¬ (s < x.length ∧ [13, 10].contains (x.getD s 0) = false)) : comStop x (n + 1) s = s := if_neg h
theorem crlf3 {n : Nat} (h : n < 256) : Txt.contains ⟨STOP3.toArray⟩ ⟨#[n]⟩ = [13, 10].contains n := stop_at h (l := STOP3) (by decide)
/-- a comment -/
theorem pc_cmt (r : Rdy c' piecesN) (G : PG c' x pa la H₀ ps ls a M J) {H : Hp} (hS : PSt H₀ H pa la ps ls) (h : x.getD a 0 = 59) {K : Fl → St → Prop} (hK : ∀ σ, M σ → K .next σ) : pcC.v c' K ⟨PLc x pa la a m, H⟩ := by
  have hc := comStop_le (x := x) FUEL (a + 1) G.ha
  refine RunI.whl (G := Nat) r (by decide +kernel) (fun s => [(.ktext, .str x), (.kpieces, .ref pa), (.klines, .ref la), (.kat, .int a), (.kstop, .int s)]) (fun n s H' => H' = H ∧ a < s ∧ s ≤ x.length ∧ x.length - s < n ∧ comStop x n s = comStop x FUEL (a + 1)) FUEL (a + 1)
    ⟨rfl, rfl, rfl, rfl, rfl, trivial⟩ ⟨rfl, Nat.lt_succ_self a, G.ha, Nat.lt_of_le_of_lt (Nat.sub_le _ _) (Nat.lt_of_le_of_lt G.hl (by decide)), rfl⟩ ?_
  intro n s H' hP J1 T hN _ _ hT _
  obtain ⟨rfl, q0, q1, q2, q3⟩ := hP
  obtain _ | n := n
  · exact absurd q2 (Nat.not_lt_zero _)
  have stop : ¬ (s < x.length ∧ [13, 10].contains (x.getD s 0) = false) → T ⟨[(.ktext, .str x), (.kpieces, .ref pa), (.klines, .ref la), (.kat, .int a), (.kstop, .int s)], H'⟩ := fun hs => by
    have e := (cs_st hs).symm.trans q3
    refine hT _ ?_
    refine metL hS.p ?_
    refine And.intro ⟨l40 G.hl, nn1 _, nn _⟩ ?_
    refine hS.callP (q := ⟨.comment, a, s, seg x (a + 1) s, false⟩) rfl (l80 G.hp) fun H2 h2 => ?_
    refine hK _ (G.go [] _ [] _ H2 ?_ (by rw [List.append_nil]; exact h2) ⟨rfl, rfl, rfl, rfl, trivial⟩)
    rw [st_comment h, ← e]
    rfl
  refine CallI.mk (CallV.lenS (l40 G.hl) ?_)
  by_cases hs : s < x.length
  · (conv => whnf)
    refine brT (ltT hs) ?_
    refine Exists.intro _ (And.intro (itS hs G.hl) ?_)
    refine Exists.intro _ (Exists.intro _ (And.intro ⟨rfl, crlf3 (G.hx _)⟩ ?_))
    by_cases hc : [13, 10].contains (x.getD s 0) = false
    · (conv => whnf)
      refine brT (by rw [hc]; rfl) ?_
      have ar := ar1 hs q2
      exact hN n (s + 1) _ H' (Nat.lt_succ_self n) ⟨rfl, rfl, rfl, rfl, rfl, trivial⟩ ⟨rfl, Nat.lt_succ_of_lt q0, ar.1, ar.2, (cs_go ⟨hs, hc⟩).symm.trans q3⟩
    · (conv => whnf)
      refine brF (notT' hc) ?_
      exact stop fun h => hc h.2
  · (conv => whnf)
    refine brF (ltF hs) ?_
    exact stop fun h => hs h.1
noncomputable abbrev PLw (x : List Nat) (pa la : Addr) (a : Nat) (k : List Nat) (s : Nat) (e : Bool) : List (N × V) := [(.ktext, .str x), (.kpieces, .ref pa), (.klines, .ref la), (.kat, .int a), (.kkind, .str k), (.kstop, .int s), (.kescaped, .bool e)]
theorem l80' {ps : List Pc} {q : Pc} (h : ps.length ≤ 80) : (ps ++ [q]).length ≤ 1000000 := by rw [List.length_append, List.length_singleton]; omega
/-- behind a body's lines -/
theorem pc_word2 (G : PG c' x pa la H₀ ps ls a M J) {H : Hp} {k : Kd} {s : Nat} {e : Bool} {bl : List Nat} (hS : PSt H₀ H pa la ps (ls ++ bl)) 
    (he : (if k = .quoted then ([⟨.quoted, a, s, seg x (a + 1) s, e⟩, ⟨.close, s, s + 1, [], false⟩], bl, false) else ([⟨k, a, s, seg x a s, e⟩], bl, decide (k = .ends ∨ k = .torn))) = stepP x a)
    {K : Fl → St → Prop} (hK : ∀ σ, M σ → K .next σ) (hR : ∀ v σ, J (.ret v) σ → K (.ret v) σ) : (pcW.drop 2).v c' K ⟨PLw x pa la a k.s s e, H⟩ := by
  by_cases hq : k = .quoted
  · subst hq
    have he := he.symm.trans (if_pos rfl)
    refine metL hS.p ?_
    refine And.intro ⟨l40 G.hl, nn1 _, nn _⟩ ?_
    refine hS.callP (q := ⟨.quoted, a, s, seg x (a + 1) s, e⟩) rfl (l80 G.hp) fun H2 h2 => ?_
    refine metL h2.p ?_
    refine h2.callP (q := ⟨.close, s, s + 1, [], false⟩) rfl (l80' G.hp) fun H3 h3 => ?_
    exact hK _ (G.go [⟨.quoted, a, s, seg x (a + 1) s, e⟩] _ bl _ H3 he (by rw [List.append_assoc] at h3; exact h3) ⟨rfl, rfl, rfl, rfl, trivial⟩)
  · have he := he.symm.trans (if_neg hq)
    (conv => whnf)
    refine brF (ksF .quoted hq) ?_
    refine metL hS.p ?_
    refine And.intro ⟨l40 G.hl, nn _, nn _⟩ ?_
    refine hS.callP (q := ⟨k, a, s, seg x a s, e⟩) rfl (l80 G.hp) fun H2 h2 => ?_
    by_cases h1 : k = .ends
    · (conv => whnf)
      refine brT (ksT .ends h1) ?_
      exact hR _ _ (G.st _ _ _ H2 (he.trans (by rw [decide_eq_true (.inl h1)])) h2)
    (conv => whnf)
    refine brF (ksF .ends h1) ?_
    by_cases h2' : k = .torn
    · (conv => whnf)
      refine brT (ksT .torn h2') ?_
      exact hR _ _ (G.st _ _ _ H2 (he.trans (by rw [decide_eq_true (.inr h2')])) h2)
    (conv => whnf)
    refine brF (ksF .torn h2') ?_
    exact hK _ (G.go [] _ bl _ H2 (he.trans (by rw [decide_eq_false fun h => h.elim h1 h2']; rfl)) h2 ⟨rfl, rfl, rfl, rfl, trivial⟩)
theorem take_s {bl : List Nat} {i nv : Nat} (h : bl[i]? = some nv) : ls ++ bl.take (i + 1) = (ls ++ bl.take i) ++ [nv] := by
  rw [List.take_succ, h, List.append_assoc]; rfl
theorem ai_n {ns : List Nat} {i : Nat} {v : V} (h : (ns.map natV)[i]? = some v) : ∃ nv, ns[i]? = some nv ∧ v = natV nv := by
  rw [List.getElem?_map] at h
  cases q : ns[i]? with
  | none => rw [q] at h; cases h
  | some nv => rw [q] at h; exact ⟨nv, rfl, (Option.some.inj h).symm⟩
theorem lenT3 {bl : List Nat} {i : Nat} (h : ls.length ≤ 40) (h2 : bl.length ≤ 40) : (ls ++ bl.take i).length ≤ 1000000 := by rw [List.length_append, List.length_take]; omega
theorem beq_d (m k : Nat) : decide ([m] = [k]) = (m == k) := by
  by_cases h : m = k
  · subst h; rw [decide_eq_true rfl, beq_self_eq_true]
  · rw [chF h, beq_eq_false_iff_ne.mpr h]
theorem if_le {a L : Nat} (h : a < L) {b : Bool} : (if b then a + 1 else a) ≤ L := by cases b <;> simp <;> omega
theorem fuel_le {a L : Nat} (hL : L ≤ 40) : L - a < FUEL := Nat.lt_of_le_of_lt (Nat.sub_le _ _) (Nat.lt_of_le_of_lt hL (by decide))
theorem body_cnt {ins : Bool} (hl : x.length ≤ 40) (ha : a < x.length) : (bodyF x ins FUEL (if ins then a + 1 else a) false []).2.2.2.length ≤ 40 := by
  have h1 := (bodyF_cnt (x := x) (i := ins) FUEL (if ins then a + 1 else a) false []).2
  have h2 := (bodyF_le (x := x) (i := ins) FUEL (if ins then a + 1 else a) false [] (if_le ha) (fuel_le hl)).2.1
  rw [List.length_nil] at h1
  omega
/-- a word, or what stands in quotes -/
theorem pc_word (r : Rdy c' piecesN) (hK : c'.K = KK P) (hc : c'.Calls 1) (G : PG c' x pa la H₀ ps ls a M J) {H : Hp} (hS : PSt H₀ H pa la ps ls) 
    (h32 : ¬ x.getD a 0 = 32) (h9 : ¬ x.getD a 0 = 9) (h40 : ¬ x.getD a 0 = 40) (h41 : ¬ x.getD a 0 = 41) (h13 : ¬ x.getD a 0 = 13) (h10 : ¬ x.getD a 0 = 10) (h59 : ¬ x.getD a 0 = 59)
    {K : Fl → St → Prop} (hK2 : ∀ σ, M σ → K .next σ) (hR2 : ∀ v σ, J (.ret v) σ → K (.ret v) σ) : pcW.v c' K ⟨PLc x pa la a (x.getD a 0), H⟩ := by
  refine CallI.mk (body_spec P r.K hK (Cx.Calls.le hc (by decide)) G.hx G.hl G.ha fun lb H1 k s e bl hb h1 h2 h3 => ?_)
  rw [beq_d] at hb
  have hst := st_c h32 h9 h40 h41 h13 h10 h59
  dsimp only at hst
  have hbl := body_cnt (x := x) (a := a) (ins := x.getD a 0 == 34) G.hl G.ha
  rw [hb] at hst hbl
  have hS1 := hS.kpa h2
  have np : lb ≠ pa := Ne.symm (new_ne h3 hS.p)
  have nl : lb ≠ la := Ne.symm (new_ne h3 hS.l)
  refine RunI.forL (G := Unit) r (by decide +kernel) ?_
  refine ⟨lb, bl.map natV, fun _ => PLw x pa la a k.s s e, fun it i _ H' => PSt H₀ H' pa la ps (ls ++ bl.take i) ∧ H' lb = some (.list (bl.map natV)) ∧ H' it = some (.liter lb i) ∧ it ≠ pa ∧ it ≠ la ∧ it ≠ lb ∧ H₀ it = none, (), rfl, h1, ⟨⟨rfl, rfl, rfl, rfl, rfl, rfl, rfl, trivial⟩, fun it hit => ?_⟩, fun it i _ H' h => ⟨h.2.2.1, h.2.1⟩, ?_, ?_⟩
  · have n1 : it ≠ pa := Ne.symm (new_ne hit hS1.p)
    have n2 : it ≠ la := Ne.symm (new_ne hit hS1.l)
    have n3 : it ≠ lb := Ne.symm (new_ne hit h1)
    have n4 := hS1.keep.none hit
    exact ⟨by rw [List.take_zero, List.append_nil]; exact hS1.other n1 n2 n4, (upd_ne n3.symm).trans h1, upd_same, n1, n2, n3, n4⟩
  · intro it i v _ H' hv hP J1 hJ1 _
    obtain ⟨q1, q2, q3, q4, q5, q6, q7⟩ := hP
    obtain ⟨nv, hnv, rfl⟩ := ai_n hv
    have q1' := q1.other (o := .liter lb (i + 1)) q4 q5 q7
    refine metL q1'.l ?_
    refine CallI.mk (CallV.append q1'.l (by rw [List.length_map]; exact lenT3 G.hls hbl) ?_)
    refine hJ1 () _ _ ⟨rfl, rfl, rfl, rfl, rfl, rfl, rfl, trivial⟩ ⟨by rw [take_s hnv]; exact q1'.addL rfl, (upd_ne nl).trans ((upd_ne q6.symm).trans q2), (upd_ne q5).trans upd_same, q4, q5, q6, q7⟩
  · intro it _ H' hP
    obtain ⟨q1, q2, q3, q4, q5, q6, q7⟩ := hP
    rw [List.length_map, List.take_length] at q1
    exact pc_word2 G (q1.gone q4 q5 q7) hst.symm hK2 hR2
end

section
variable {P : Params} {c' : Cx} {x : List Nat} {pa la : Addr} {H₀ : Hp} {J : Fl → St → Prop} {M : St → Prop} {a : Nat} {ps : List Pc} {ls : List Nat}
theorem nn2 (n : Nat) : (0 : Int) ≤ (n : Int) + 2 := nn (n + 2)
/-- one round of the cut -/
theorem pc_ite (r : Rdy c' piecesN) (hK : c'.K = KK P) (hc : c'.Calls 1) (G : PG c' x pa la H₀ ps ls a M J) {H : Hp} (hS : PSt H₀ H pa la ps ls) : pcI.v c' (seqV M J) ⟨PLc x pa la a (x.getD a 0), H⟩ := by
  have one : ∀ q : Pc, stepP x a = ([q], [], false) → ∀ v, v = pcV q → CallI c' (.bi "list.append") [.ref pa, v] [] [] ⟨PLc x pa la a (x.getD a 0), H⟩ fun _ σ => M σ := fun q e v hv =>
    hS.callP hv (l80 G.hp) fun H2 h2 => G.go [] q [] _ H2 e (by rw [List.append_nil]; exact h2) ⟨rfl, rfl, rfl, rfl, trivial⟩
  by_cases h32 : x.getD a 0 = 32
  · (conv => whnf)
    refine brT (chT h32) ?_
    exact metL hS.p (one ⟨.blank, a, a + 1, [], false⟩ (st_blank (.inl h32)) _ rfl)
  (conv => whnf)
  refine brF (chF h32) ?_
  by_cases h9 : x.getD a 0 = 9
  · (conv => whnf)
    refine brT (chT h9) ?_
    exact metL hS.p (one ⟨.blank, a, a + 1, [], false⟩ (st_blank (.inr h9)) _ rfl)
  (conv => whnf)
  refine brF (chF h9) ?_
  by_cases h40 : x.getD a 0 = 40
  · (conv => whnf)
    refine brT (chT h40) ?_
    exact metL hS.p (one ⟨.lpar, a, a + 1, [], false⟩ (st_lpar h40) _ (by rw [h40]; rfl))
  (conv => whnf)
  refine brF (chF h40) ?_
  by_cases h41 : x.getD a 0 = 41
  · (conv => whnf)
    refine brT (chT h41) ?_
    exact metL hS.p (one ⟨.rpar, a, a + 1, [], false⟩ (st_rpar h41) _ (by rw [h41]; rfl))
  (conv => whnf)
  refine brF (chF h41) ?_
  have line : x.getD a 0 = 13 ∨ x.getD a 0 = 10 → ((((pcI.b2.s 0).b2.s 0).b1).v c' (seqV M J) ⟨PLc x pa la a (x.getD a 0), H⟩) := fun h => by
    have e := st_l h32 h9 h40 h41 h
    refine metL hS.l ?_
    refine hS.callL (n := a) rfl (l80 (Nat.le_trans G.hls (by decide))) fun H2 h2 => ?_
    refine And.intro ⟨l40 G.hl, nn _, nn2 _⟩ ?_
    by_cases hq : seg x a (a + 2) = [13, 10]
    · (conv => whnf)
      refine brT (decide_eq_true hq) ?_
      rw [if_pos hq] at e
      refine metL h2.p ?_
      exact h2.callP (q := ⟨.line, a, a + 2, [], false⟩) rfl (l80 G.hp) fun H3 h3 => G.go [] _ [a] _ H3 e h3 ⟨rfl, rfl, rfl, rfl, trivial⟩
    · (conv => whnf)
      refine brF (decide_eq_false hq) ?_
      rw [if_neg hq] at e
      refine metL h2.p ?_
      exact h2.callP (q := ⟨.line, a, a + 1, [], false⟩) rfl (l80 G.hp) fun H3 h3 => G.go [] _ [a] _ H3 e h3 ⟨rfl, rfl, rfl, rfl, trivial⟩
  by_cases h13 : x.getD a 0 = 13
  · (conv => whnf)
    refine brT (chT h13) ?_
    exact line (.inl h13)
  (conv => whnf)
  refine brF (chF h13) ?_
  by_cases h10 : x.getD a 0 = 10
  · (conv => whnf)
    refine brT (chT h10) ?_
    exact line (.inr h10)
  (conv => whnf)
  refine brF (chF h10) ?_
  by_cases h59 : x.getD a 0 = 59
  · (conv => whnf)
    refine brT (chT h59) ?_
    exact pc_cmt r G hS h59 fun _ q => q
  (conv => whnf)
  refine brF (chF h59) ?_
  exact pc_word r hK hc G hS h32 h9 h40 h41 h13 h10 h59 (fun _ q => q) fun _ _ q => q
theorem pl_ar {p a L : Nat} (h : a ≤ L) (h2 : L ≤ 40) (h3 : p ≤ 2 * a) : p ≤ 80 := by omega
end
theorem pcs_over {x : List Nat} {n a : Nat} (h : ¬ a < x.length) : pcs x (n + 1) a = ([⟨.over, a, a, [], false⟩], []) := by rw [pcs, if_neg h]
theorem pieces_spec (P : Params) (K : c.Ok) (hK : c.K = KK P) (hc : c.Calls 2) {Q : V → St → Prop} {x : List Nat} (hx : ∀ i, x.getD i 0 < 256) (hl : x.length ≤ 40)
   (hQ : ∀ pa la H', PSt σ.H H' pa la (pcs x FUEL 0).1 (pcs x FUEL 0).2 → Q (.tup [.ref pa, .ref la]) ⟨σ.loc, H'⟩) : CallV c (.ref 486) [.str x] [] [] σ Q := by
  refine (piecesF P).call (k := 1) K hK hc (.all rfl fun s us _ h => ?_) fun c' r hc' hK' hX' => ?_
  · obtain ⟨u1, rfl⟩ := len1 h
    exact BindsTo.of_eq rfl
  intro pa hpa la hla
  have np : pa ≠ la := new_ne hla upd_same
  have nl : σ.H la = none := ((Kpa.refl _).new hpa).none hla
  refine RunI.whl (G := Nat × List Pc × List Nat) r (by decide +kernel) (fun g => PLs x pa la g.1) (fun n g H => PI σ.H x pa la (pcs x FUEL 0) n g H) FUEL (0, [], []) ⟨rfl, rfl, rfl, rfl, trivial⟩
    ⟨⟨(upd_ne np).trans upd_same, upd_same, np, ((Kpa.refl _).new hpa).new hla, hpa, nl⟩, Nat.zero_le _, Nat.lt_of_le_of_lt hl (by decide), Nat.zero_le _, Nat.zero_le _, rfl⟩ ?_
  intro n g H hP J T hN _ _ hT hR
  obtain ⟨a, ps, ls⟩ := g
  obtain _ | n := n
  · exact absurd hP.lt (Nat.not_lt_zero _)
  refine CallI.mk (CallV.lenS (l40 hl) ?_)
  by_cases hs : a < x.length
  · (conv => whnf)
    refine brT (ltT hs) ?_
    refine Exists.intro _ (And.intro (itS hs hl) ?_)
    refine consI (s := pcI) (b := pcL.drop 2) (hideS fun M hM => ?_)
    refine pc_ite r hK' hc' ⟨hx, hl, hs, pl_ar hP.le hl hP.pl, Nat.le_trans hP.ll (Nat.le_trans hP.le hl), fun s0 q s2 l H2 e h2 hs2 => hM _ ?_, fun s1 s2 l H2 e h2 => hR _ _ ?_⟩ hP.s
    · have h3 := hP.next hl hs e h2
      refine pc_end (q := q) hs2 (ps' := ps ++ s0) (ls' := ls ++ s2) (by rw [List.append_assoc]; exact h2) ?_ fun l hl2 => hN n (q.en, ps ++ (s0 ++ [q]), ls ++ s2) l H2 (Nat.lt_succ_self n) hl2 h3
      rw [List.append_assoc]
      exact Nat.le_trans (pl_ar h3.le hl h3.pl) (by decide)
    · exact hQ _ _ _ (hP.stop hs e h2)
  · (conv => whnf)
    refine brF (ltF hs) ?_
    refine hT _ ?_
    have e := hP.eq
    rw [pcs_over hs] at e
    refine metL hP.s.p ?_
    refine hP.s.callP (q := ⟨.over, a, a, [], false⟩) rfl (l80 (pl_ar hP.le hl hP.pl)) fun H2 h2 => ?_
    refine hQ _ _ _ ?_
    rw [← e]
    show PSt σ.H H2 pa la (ps ++ [_]) (ls ++ [])
    rw [List.append_nil]
    exact h2

set_option genSizeOf false
set_option genInjectivity false
/-- what a law's run is about -/
structure LD where
  (a f pa la ra : Addr)
  (x nF : List Nat)
  (ps : List Pc)
  (L : List Nat)
/-- what never changes -/
structure LC (c : Cx) (D : LD) : Prop where
  nF : ∀ n ∈ D.nF, n < 1114112
  x4 : D.x.length ≤ 40
  lo : ∀ p ∈ D.ps, Lo p.val
  good : Good D.ps
  pl : D.ps.length ≤ 200
  ll : D.L.length ≤ 1000
  cell : c.env.cells.lookup (nm .kread) = some D.ra
theorem ob_ne {H : Hp} {a b : Addr} {o o' : O} (h : H a = some o) (h' : H b = some o') (n : o = o' → False) : a ≠ b := fun e => by
  subst e; rw [h] at h'; exact n (Option.some.inj h')
/-- what holds on the heap -/
structure LF (K₀ H : Hp) (D : LD) (u : V) (t : T) (r : Nat) : Prop where
  tk : TK H D.a D.f D.x D.nF u t
  p : H D.pa = some (.list (D.ps.map pcV))
  l : H D.la = some (.list (D.L.map natV))
  r : H D.ra = some (.cell (some (.int r)))
  keep : ∀ b o, b ≠ D.a → b ≠ D.f → b ≠ D.ra → K₀ b = some o → H b = some o
section
variable {K₀ H H' : Hp} {D : LD} {u u' : V} {t t' : T} {r : Nat}
theorem LF.kp (h : LF K₀ H D u t r) (hT : TK H' D.a D.f D.x D.nF u' t') (k : Kp D.a D.f H H') : LF K₀ H' D u' t' r :=
  ⟨hT, k _ _ (ob_ne h.p h.tk.tok fun e => by cases e) (ob_ne h.p h.tk.txt fun e => by cases e) h.p, k _ _ (ob_ne h.l h.tk.tok fun e => by cases e) (ob_ne h.l h.tk.txt fun e => by cases e) h.l,
    k _ _ (ob_ne h.r h.tk.tok fun e => by cases e) (ob_ne h.r h.tk.txt fun e => by cases e) h.r, fun b o n1 n2 n3 e => k b o n1 n2 (h.keep b o n1 n2 n3 e)⟩
theorem LF.kpa (h : LF K₀ H D u t r) (k : Kpa H H') : LF K₀ H' D u t r :=
  ⟨⟨k _ _ h.tk.tok, k _ _ h.tk.txt⟩, k _ _ h.p, k _ _ h.l, k _ _ h.r, fun b o n1 n2 n3 e => k b o (h.keep b o n1 n2 n3 e)⟩
theorem LF.setr (h : LF K₀ H D u t r) {r' : Nat} : LF K₀ (H.upd D.ra (.cell (some (.int r')))) D u t r' :=
  ⟨⟨(upd_ne (ob_ne h.tk.tok h.r fun e => by cases e)).trans h.tk.tok, (upd_ne (ob_ne h.tk.txt h.r fun e => by cases e)).trans h.tk.txt⟩, (upd_ne (ob_ne h.p h.r fun e => by cases e)).trans h.p, (upd_ne (ob_ne h.l h.r fun e => by cases e)).trans h.l, upd_same,
    fun b o n1 n2 n3 e => (upd_ne n3).trans (h.keep b o n1 n2 n3 e)⟩
end
/-- what one token is -/
structure TkAt (H : Hp) (b : Addr) (j : Int) (vv ve vc : V) : Prop where
  at_ : H b = some (.inst 209 (tkFs (.int j) vv ve vc))
  ds : (pds [.int j, vv, ve, vc]).isSome = true
  h1 : vv.handed = true
  h2 : ve.handed = true
  h3 : vc.handed = true
/-- the names at the head of the loop -/
noncomputable abbrev LV (D : LD) (i d : Nat) (vl vs : V) : List (N × V) := [(.kreader, .ref D.a), (.klabel, .str D.nF), (.kpieces, .ref D.pa), (.klines, .ref D.la), (.kat, .int i), (.kdepth, .int d), (.klast, vl), (.ksaid, vs)]
noncomputable abbrev LV1 (D : LD) (i d : Nat) (vl vs : V) (n e : Int) (lead note : Bool) (bk hd : V) : List (N × V) :=
  [(.kreader, .ref D.a), (.klabel, .str D.nF), (.kpieces, .ref D.pa), (.klines, .ref D.la), (.kat, .int i), (.kdepth, .int d), (.klast, vl), (.ksaid, vs), (.knumber, .int n), (.klead, .bool lead), (.knote, .bool note), (.kdeed, .int e), (.kback, bk), (.kheld, hd)]
noncomputable abbrev LV2 (D : LD) (i d : Nat) (vl vs : V) (n e : Int) (lead note : Bool) (bk hd vd : V) : List (N × V) :=
  [(.kreader, .ref D.a), (.klabel, .str D.nF), (.kpieces, .ref D.pa), (.klines, .ref D.la), (.kat, .int i), (.kdepth, .int d), (.klast, vl), (.ksaid, vs), (.knumber, .int n), (.klead, .bool lead), (.knote, .bool note), (.kdeed, .int e), (.kback, bk), (.kheld, hd), (.kverdict, vd)]
noncomputable abbrev LV3 (D : LD) (i d : Nat) (vl vs : V) (n e : Int) (lead note : Bool) (bk hd vd wd : V) : List (N × V) :=
  [(.kreader, .ref D.a), (.klabel, .str D.nF), (.kpieces, .ref D.pa), (.klines, .ref D.la), (.kat, .int i), (.kdepth, .int d), (.klast, vl), (.ksaid, vs), (.knumber, .int n), (.klead, .bool lead), (.knote, .bool note), (.kdeed, .int e), (.kback, bk), (.kheld, hd), (.kverdict, vd), (.kword, wd)]
noncomputable abbrev lawL : B := (lawB.s 13).b1
theorem grdI {b : Bool} {p : Prop} (h : b = true) (x : p) : vGrd b p := by subst h; exact x
theorem cnt_len {L : List Nat} {r : Nat} : (List.map natV (List.filter (fun y : Nat => decide ((y : Int) < (r : Int))) L)).length = cnt L r := by
  rw [List.length_map]; unfold cnt; congr 1; apply List.filter_congr; intro y _; simp
theorem cnt_le {L : List Nat} {r : Nat} : cnt L r ≤ L.length := List.length_filter_le _ _
theorem line_eq {t r : Nat} (h : t = 1 + r) : (.int ((1 : Int) + (r : Int)) : V) = .int (t : Int) := by subst h; rfl
theorem pds2 {x : List Nat} (h : ∀ n ∈ x, n < 1114112) (i : Int) : (pds [.str x, .int i]).isSome = true := by
  have q : x.all (· < 0x110000) = true := by simpa using h
  simp only [pds, V.pd, q, if_true]
  rfl
section
variable {P : Params} {D : LD} {K₀ H : Hp} {Q : Fl → St → Prop} {t : T} {rd i d : Nat} {vl vs bk hd : V} {n e : Int} {lead note : Bool}
/-- the ends of the lines already read -/
theorem lines_comp (r : Rdy c lawN) (C : LC c D) (h : LF K₀ H D .none t rd) {l : List (N × V)} (hl : lk l .klines = some (.ref D.la)) {p px p1 p2 p3 p4 p5 : Nat} {K : V → St → Prop}
    (hK : ∀ b, H b = none → K (.ref b) ⟨l, H.upd b (.list ((D.L.filter fun y : Nat => decide ((y : Int) < (rd : Int))).map natV))⟩) : CompI c (.cmh p px p1 p2 p3 p4 p5) ⟨l, H⟩ K :=
  ⟨W.compLt r.K r.hh r.hu (r.loc (by decide +kernel)) hl h.l (r.cel (by decide +kernel)) C.cell h.r C.ll rfl hK⟩
/-- the law's round, the second `where` -/
theorem law_where (r : Rdy c lawN) (hK : c.K = KK P) (hc : c.Calls 6) (C : LC c D) (h : LF K₀ H D .none t rd) (hline : t.line = 1 + cnt D.L rd) {wd vd : V} {M : St → Prop} {J : Fl → St → Prop}
    (hM : ∀ H', Kpa H H' → M ⟨LV3 D i d vl vs n e lead note bk hd vd wd, H'⟩) : (lawL.s 11).v c (seqV M J) ⟨LV3 D i d vl vs n e lead note bk hd vd wd, H⟩ := by
  have hT := h.tk
  (repeat (first | refine attI (by ((repeat refine (upd_ne (by first | assumption | exact Ne.symm (by assumption))).trans ?_); first | exact upd_same | assumption | exact TK.tok (by assumption) | exact TK.txt (by assumption))) ?_ | refine stoI (by ((repeat refine (upd_ne (by first | assumption | exact Ne.symm (by assumption))).trans ?_); first | exact upd_same | assumption | exact TK.tok (by assumption) | exact TK.txt (by assumption))) ?_ | refine metI (by ((repeat refine (upd_ne (by first | assumption | exact Ne.symm (by assumption))).trans ?_); first | exact upd_same | assumption | exact TK.tok (by assumption) | exact TK.txt (by assumption))) ?_))
  refine CallI.mk (where_spec P r.K hK (Cx.Calls.le hc (by decide)) h.tk ?_)
  refine lines_comp r C h rfl fun b hb => ?_
  refine CallI.mk (CallV.lenL upd_same (by rw [cnt_len]; exact Nat.le_trans cnt_le (Nat.le_trans C.ll (by decide))) ?_)
  rw [cnt_len]
  refine And.intro ⟨(by rw [line_eq hline]), pds2 C.nF _⟩ ?_
  exact hM _ ((Kpa.refl _).new hb)
/-- the end of a round that goes on -/
theorem law_end (r : Rdy c lawN) {b : Addr} {j : Int} {vv ve vc wd : V} (hb : TkAt H b j vv ve vc) 
    (hQ : Q .next ⟨LV3 D i d (.ref b) (.tup [.int j, vv, ve, vc]) n e lead note bk hd (.str []) wd, H⟩) : (lawL.drop 12).v c Q ⟨LV3 D i d (.ref b) (.tup [.int j, vv, ve, vc]) n e lead note bk hd (.str []) wd, H⟩ := by
  have h1 := hb.at_
  refine attI h1 ?_
  refine attI h1 ?_
  (conv => whnf)
  refine grdI hb.h1 ?_
  refine attI h1 ?_
  (conv => whnf)
  refine grdI hb.h2 ?_
  refine attI h1 ?_
  (conv => whnf)
  refine grdI hb.h3 ?_
  refine And.intro ⟨rfl, hb.ds⟩ ?_
  exact hQ
end

set_option genSizeOf false
set_option genInjectivity false
/-- the last token, and what was said of it -/
inductive LT (H : Hp) : V → V → Prop
  | non : LT H .none .none
  | tok (b : Addr) (j : Int) (vv ve vc : V) (h : TkAt H b j vv ve vc) : LT H (.ref b) (.tup [.int j, vv, ve, vc])
structure LI (D : LD) (t : T) (i d r : Nat) : Prop where
  inv : Inv D.x D.ps D.L t i d
  line : t.line = 1 + cnt D.L r
/-- what a round may give -/
structure LQ (K₀ : Hp) (D : LD) (Q : Fl → St → Prop) : Prop where
  next : ∀ t i d r vl vs l H, LF K₀ H D .none t r → LI D t i d r → LT H vl vs → subL l (LV D i d vl vs) → Q .next ⟨l, H⟩
  ret : ∀ σ, Q (.ret (.bool true)) σ
section
variable {H H' : Hp} {a f b : Addr} {j : Int} {vv ve vc : V}
theorem TkAt.kp {x nF : List Nat} {u : V} {t : T} (h : TkAt H b j vv ve vc) (hT : TK H a f x nF u t) (k : Kp a f H H') : TkAt H' b j vv ve vc :=
  ⟨k _ _ (cls_ne h.at_ hT.tok (by decide)) (cls_ne h.at_ hT.txt (by decide)) h.at_, h.ds, h.h1, h.h2, h.h3⟩
theorem TkAt.kpa (h : TkAt H b j vv ve vc) (k : Kpa H H') : TkAt H' b j vv ve vc := ⟨k _ _ h.at_, h.ds, h.h1, h.h2, h.h3⟩
theorem allB {l : List Nat} (h : Lo l) : l.all (· < 0x110000) = true := by
  rw [List.all_eq_true]; intro n hn; have := h n hn; simp; omega
theorem pds_sd {s : Sd} (h : LoS s) : (pds [.int s.1, .str s.2.1, .bool s.2.2.1, comV s.2.2.2]).isSome = true := by
  obtain ⟨ty, val, esc, com⟩ := s
  have q := allB h.2.1
  cases com with
  | none => simp only [comV, pds, V.pd, q, if_true]; rfl
  | some l =>
    have q2 := allB (h.2.2 l rfl)
    simp only [comV, pds, V.pd, q, q2, if_true]; rfl
theorem tkAt_sd {s : Sd} (hs : LoS s) (h : H b = some (.inst 209 (tkFs (.int s.1) (.str s.2.1) (.bool s.2.2.1) (comV s.2.2.2)))) : TkAt H b s.1 (.str s.2.1) (.bool s.2.2.1) (comV s.2.2.2) :=
  ⟨h, pds_sd hs, rfl, rfl, by cases s.2.2.2 <;> rfl⟩
end
section
variable {P : Params} {D : LD} {K₀ H : Hp} {Q : Fl → St → Prop} {t : T} {rd i d : Nat} {vl vs bk hd : V} {n e : Int} {lead note : Bool}
/-- a token that is held -/
theorem law_tellA (r : Rdy c lawN) (hK : c.K = KK P) (hc : c.Calls 6) (C : LC c D) {b : Addr} (h : LF K₀ H D (.ref b) t rd) (hI : LI D t i d rd) {j : Int} {vv ve vc : V} (hb : TkAt H b j vv ve vc) (hg : (j ≠ 2 ∨ lead = true) ∧ (j ≠ 5 ∨ note = true)) (Z : LQ K₀ D Q) :
    (lawL.drop 9).v c Q ⟨LV2 D i d vl (.tup [.int j, vv, ve, vc]) n e lead note bk hd (.str []), H⟩ := by
  refine CallI.mk (told_held r.K hK (Cx.Calls.le hc (by decide)) h.tk hb.at_ hg fun H' g1 g2 => ?_)
  refine consI (s := lawL.s 11) (b := lawL.drop 12) (law_where r hK hc C (h.kp g1 g2) hI.line fun H2 k => ?_)
  have hb2 := (hb.kp h.tk g2).kpa k
  refine law_end r hb2 (Z.next _ i d rd _ _ _ _ ((h.kp g1 g2).kpa k) hI (.tok b j vv ve vc hb2) ⟨rfl, rfl, rfl, rfl, rfl, rfl, rfl, rfl, trivial⟩)
/-- a new token -/
theorem law_tellB (r : Rdy c lawN) (hK : c.K = KK P) (hc : c.Calls 6) (C : LC c D) {u : V} {g : Rs × T} {nx : Vd × Nat × Nat × Nat} (h : LF K₀ H D u t nx.2.2.2) (hS : Same D.x D.ps D.L g nx) (hlo : LoV nx.1)
    (ht : ∀ l K, toldK l H K D.a D.f D.x D.nF g → CallV c (.ref 514) [.ref D.a, .bool lead, .bool note] [] [] ⟨l, H⟩ K) (Z : LQ K₀ D Q) :
    (lawL.drop 9).v c Q ⟨LV2 D nx.2.1 nx.2.2.1 vl (vdS nx.1) n e lead note bk hd (vdW nx.1), H⟩ := by
  refine CallI.mk (ht _ _ ?_)
  obtain ⟨rs, t'⟩ := g
  obtain ⟨nv, i', d', rd⟩ := nx
  obtain ⟨e1, e2, e3⟩ := hS
  dsimp only at e1 e2 e3 h hlo ⊢
  subst e1
  cases rs with
  | tok ty val esc com =>
    intro b H' g0 g1 g2
    refine consI (s := lawL.s 11) (b := lawL.drop 12) (law_where r hK hc C (h.kp g1 g2) e2 fun H2 k => ?_)
    have hb2 := (tkAt_sd (s := (ty, val, esc, com)) (hlo _ rfl) g0).kpa k
    exact law_end r hb2 (Z.next _ i' d' rd _ _ _ _ ((h.kp g1 g2).kpa k) ⟨e3 _ rfl, e2⟩ (.tok b _ _ _ _ hb2) ⟨rfl, rfl, rfl, rfl, rfl, rfl, rfl, rfl, trivial⟩)
  | synt =>
    intro H' g1 g2
    refine consI (s := lawL.s 11) (b := lawL.drop 12) (law_where r hK hc C (h.kp g1 g2) e2 fun H2 k => ?_)
    exact Z.ret _
  | ended =>
    intro H' g1 g2
    refine consI (s := lawL.s 11) (b := lawL.drop 12) (law_where r hK hc C (h.kp g1 g2) e2 fun H2 k => ?_)
    exact Z.ret _
end

section
variable {P : Params} {D : LD} {K₀ H : Hp} {Q : Fl → St → Prop} {t : T} {rd i d : Nat} {vl vs bk hd : V} {n e : Int} {lead note : Bool}

/-- the reckoning is asked -/
theorem law_ask (r : Rdy c lawN) (hK : c.K = KK P) (hc : c.Calls 6) (C : LC c D) {u : V} (h : LF K₀ H D u t rd) (hI : LI D t i d rd) {M : St → Prop} {J : Fl → St → Prop}
    (hM : M ⟨LV2 D (nextP D.ps lead note i d).2.1 (nextP D.ps lead note i d).2.2.1 vl (vdS (nextP D.ps lead note i d).1) n e lead note bk hd (vdW (nextP D.ps lead note i d).1), H.upd D.ra (.cell (some (.int (nextP D.ps lead note i d).2.2.2)))⟩) :
    (lawL.s 8).b2.v c (seqV M J) ⟨LV1 D i d vl vs n e lead note bk hd, H⟩ := by
  refine CallI.mk (next_spec P r.K hK (Cx.Calls.le hc (by decide)) h.p C.good C.pl (inv_lt hI.inv) ?_)
  refine Exists.intro _ (Exists.intro _ (And.intro ⟨C.cell, h.r⟩ ?_))
  exact hM
/-- nothing was given back -/
theorem law_8none (r : Rdy c lawN) (hK : c.K = KK P) (hc : c.Calls 6) (C : LC c D) (h : LF K₀ H D .none t rd) (hI : LI D t i d rd) (hn : hd.isNone = true) (Z : LQ K₀ D Q) : (lawL.drop 8).v c Q ⟨LV1 D i d vl vs n e lead note bk hd, H⟩ := by
  have hS := get_next (lead := lead) (note := note) hI.inv
  have fin := law_tellB (vl := vl) (bk := bk) (hd := hd) (n := n) (e := e) r hK hc C (h.setr (r' := (nextP D.ps lead note i d).2.2.2)) hS (nextP_lo C.lo) (fun l K => told_none (σ := ⟨l, _⟩) r.K hK (Cx.Calls.le hc (by decide)) h.setr.tk C.x4 (inv_uch hI.inv)) Z
  refine consI (s := lawL.s 8) (b := lawL.drop 9) (hideS fun M hM => ?_)
  have ask : (lawL.s 8).b2.v c (seqV M Q) ⟨LV1 D i d vl vs n e lead note bk hd, H⟩ := law_ask r hK hc C h hI (hM _ fin)
  (conv => whnf)
  refine brF (by rw [hn]; rfl) ?_
  (conv => whnf)
  exact ask
theorem neI {i j : Int} (h : ¬ i = j) : (!decide (i = j)) = true := by rw [decide_eq_false h]; rfl
theorem eqI {i j : Int} (h : i = j) : (!decide (i = j)) = false := by rw [decide_eq_true h]; rfl
/-- a token was given back -/
theorem law_8tok (r : Rdy c lawN) (hK : c.K = KK P) (hc : c.Calls 6) (C : LC c D) {b : Addr} (h : LF K₀ H D (.ref b) t rd) (hI : LI D t i d rd) {j : Int} {vv ve vc : V} (hb : TkAt H b j vv ve vc) (Z : LQ K₀ D Q) :
    (lawL.drop 8).v c Q ⟨LV1 D i d vl vs n e lead note bk (.tup [.int j, vv, ve, vc]), H⟩ := by
  have hS := get_next (lead := lead) (note := note) hI.inv
  have drop : (j = 2 ∧ lead = false) ∨ (j = 5 ∧ note = false) → (lawL.drop 9).v c Q ⟨LV2 D (nextP D.ps lead note i d).2.1 (nextP D.ps lead note i d).2.2.1 vl (vdS (nextP D.ps lead note i d).1) n e lead note bk (.tup [.int j, vv, ve, vc]) (vdW (nextP D.ps lead note i d).1), H.upd D.ra (.cell (some (.int (nextP D.ps lead note i d).2.2.2)))⟩ := fun hg =>
    law_tellB r hK hc C (h.setr (r' := (nextP D.ps lead note i d).2.2.2)) hS (nextP_lo C.lo) (fun l K => told_drop (σ := ⟨l, _⟩) r.K hK (Cx.Calls.le hc (by decide)) h.setr.tk C.x4 (inv_uch hI.inv) ((upd_ne (ob_ne hb.at_ h.r fun e => by cases e)).trans hb.at_) hg) Z
  have keep := fun hg => law_tellA (vl := vl) (bk := bk) (hd := .tup [.int j, vv, ve, vc]) (n := n) (e := e) (lead := lead) (note := note) r hK hc C h hI hb hg Z
  refine consI (s := lawL.s 8) (b := lawL.drop 9) (hideS fun M hM => ?_)
  have ask : (j = 2 ∧ lead = false) ∨ (j = 5 ∧ note = false) → (lawL.s 8).b2.v c (seqV M Q) ⟨LV1 D i d vl vs n e lead note bk (.tup [.int j, vv, ve, vc]), H⟩ := fun hg => law_ask r hK hc C h hI (hM _ (drop hg))
  have tell : (j ≠ 2 ∨ lead = true) ∧ (j ≠ 5 ∨ note = true) → (lawL.s 8).b1.v c (seqV M Q) ⟨LV1 D i d vl vs n e lead note bk (.tup [.int j, vv, ve, vc]), H⟩ := fun hg => hM _ (keep hg)
  refine Exists.intro _ (And.intro (itT 0 rfl rfl) ?_)
  by_cases j2 : j = 2
  · (conv => whnf)
    refine brF (eqI j2) ?_
    by_cases hl : lead = true
    · (conv => whnf)
      refine brT hl ?_
      refine Exists.intro _ (And.intro (itT 0 rfl rfl) ?_)
      have j5 : ¬ j = 5 := fun e => by rw [j2] at e; cases e
      (conv => whnf)
      refine brT (neI j5) ?_
      (conv => whnf)
      exact tell ⟨.inr hl, .inl j5⟩
    · (conv => whnf)
      have hl := Bool.eq_false_iff.mpr hl
      refine brF hl ?_
      (conv => whnf)
      exact ask (.inl ⟨j2, hl⟩)
  · (conv => whnf)
    refine brT (neI j2) ?_
    refine Exists.intro _ (And.intro (itT 0 rfl rfl) ?_)
    by_cases j5 : j = 5
    · (conv => whnf)
      refine brF (eqI j5) ?_
      by_cases hl : note = true
      · (conv => whnf)
        refine brT hl ?_
        (conv => whnf)
        exact tell ⟨.inl j2, .inr hl⟩
      · (conv => whnf)
        have hl := Bool.eq_false_iff.mpr hl
        refine brF hl ?_
        (conv => whnf)
        exact ask (.inr ⟨j5, hl⟩)
    · (conv => whnf)
      refine brT (neI j5) ?_
      (conv => whnf)
      exact tell ⟨.inl j2, .inl j5⟩
end

section
variable {P : Params} {D : LD} {K₀ H : Hp} {Q : Fl → St → Prop} {J : Fl → St → Prop} {M : St → Prop} {t : T} {rd i d : Nat} {vl vs bk hd : V} {n e : Int} {lead note : Bool}
theorem law_s5 (h0 : e ≠ 1 → e ≠ 2 → M ⟨LV1 D i d vl vs n e lead note .none .none, H⟩) (h1 : e = 1 ∨ e = 2 → M ⟨LV1 D i d vl vs n e lead note vl vs, H⟩) : (lawL.s 5).v c (seqV M J) ⟨LV1 D i d vl vs n e lead note .none .none, H⟩ := by
  by_cases e1 : e = 1
  · (conv => whnf)
    refine brT (decide_eq_true e1) ?_
    exact h1 (.inl e1)
  (conv => whnf)
  refine brF (decide_eq_false e1) ?_
  by_cases e2 : e = 2
  · (conv => whnf)
    refine brT (decide_eq_true e2) ?_
    exact h1 (.inr e2)
  (conv => whnf)
  refine brF (decide_eq_false e2) ?_
  exact h0 e1 e2
theorem tkOwn {b : Addr} {j : Int} (h : H b = some (.inst 209 (tkFs (.int j) (.str [111, 119, 110]) (.bool true) (.str [109, 105, 110, 101])))) : TkAt H b j (.str [111, 119, 110]) (.bool true) (.str [109, 105, 110, 101]) := ⟨h, rfl, rfl, rfl, rfl⟩
theorem law_s6 (r : Rdy c lawN) (hK : c.K = KK P) (hc : c.Calls 6) (hn : 0 ≤ n) (hn2 : n < 1000000) (h0 : e ≠ 3 → e ≠ 4 → M ⟨LV1 D i d vl vs n e lead note bk hd, H⟩)
    (h1 : e = 3 ∨ e = 4 → ∀ b j vv ve vc H', TkAt H' b j vv ve vc → Kpa H H' → M ⟨LV1 D i d vl vs n e lead note (.ref b) (.tup [.int j, vv, ve, vc]), H'⟩) : (lawL.s 6).v c (seqV M J) ⟨LV1 D i d vl vs n e lead note bk hd, H⟩ := by
  have own : e = 3 ∨ e = 4 → (lawL.s 6).b1.v c (seqV M J) ⟨LV1 D i d vl vs n e lead note bk hd, H⟩ := fun he => by
    refine And.intro ⟨by decide, hn, Int.lt_trans hn2 (by decide), by decide⟩ ?_
    refine And.intro (by decide) ?_
    refine Exists.intro _ (And.intro (itT 0 rfl rfl) ?_)
    refine Exists.intro _ (And.intro (itT 1 rfl rfl) ?_)
    refine Exists.intro _ (And.intro (itT 2 rfl rfl) ?_)
    refine Exists.intro _ (And.intro (itT 3 rfl rfl) ?_)
    refine CallI.mk (token_spec P r.K hK (Cx.Calls.le hc (by decide)) (in5 P) fun b H' g1 g2 g3 => ?_)
    exact h1 he b _ _ _ _ H' (tkOwn g1) g2
  by_cases e1 : e = 3
  · (conv => whnf)
    refine brT (decide_eq_true e1) ?_
    exact own (.inl e1)
  (conv => whnf)
  refine brF (decide_eq_false e1) ?_
  by_cases e2 : e = 4
  · (conv => whnf)
    refine brT (decide_eq_true e2) ?_
    exact own (.inr e2)
  (conv => whnf)
  refine brF (decide_eq_false e2) ?_
  exact h0 e1 e2
theorem law_s7tok (r : Rdy c lawN) (hK : c.K = KK P) (hc : c.Calls 6) (h : LF K₀ H D .none t rd) {b : Addr} (hM : ∀ H', LF K₀ H' D (.ref b) t rd → Kp D.a D.f H H' → M ⟨LV1 D i d vl vs n e lead note (.ref b) hd, H'⟩) :
    (lawL.s 7).v c (seqV M J) ⟨LV1 D i d vl vs n e lead note (.ref b) hd, H⟩ := by
  have hT := h.tk
  (repeat (first | refine attI (by ((repeat refine (upd_ne (by first | assumption | exact Ne.symm (by assumption))).trans ?_); first | exact upd_same | assumption | exact TK.tok (by assumption) | exact TK.txt (by assumption))) ?_ | refine stoI (by ((repeat refine (upd_ne (by first | assumption | exact Ne.symm (by assumption))).trans ?_); first | exact upd_same | assumption | exact TK.tok (by assumption) | exact TK.txt (by assumption))) ?_ | refine metI (by ((repeat refine (upd_ne (by first | assumption | exact Ne.symm (by assumption))).trans ?_); first | exact upd_same | assumption | exact TK.tok (by assumption) | exact TK.txt (by assumption))) ?_))
  refine CallI.mk (unget_spec P r.K hK (Cx.Calls.le hc (by decide)) h.tk fun H' g1 g2 => ?_)
  have fin := hM H' (h.kp g1 g2) g2
  refine And.intro (by decide) ?_
  by_cases e1 : e % 2 = 0
  · (conv => whnf)
    refine brT (decide_eq_true e1) ?_
    refine CallI.mk (full_spec P r.K hK (Cx.Calls.le hc (by decide)) g1 ?_)
    exact fin
  · (conv => whnf)
    refine brF (decide_eq_false e1) ?_
    exact fin
/-- a round, from the deed on -/
theorem law_5 (r : Rdy c lawN) (hK : c.K = KK P) (hc : c.Calls 6) (C : LC c D) (h : LF K₀ H D .none t rd) (hI : LI D t i d rd) (hL : LT H vl vs) (hn : 0 ≤ n) (hn2 : n < 1000000) (Z : LQ K₀ D Q) :
    (lawL.drop 5).v c Q ⟨LV1 D i d vl vs n e lead note .none .none, H⟩ := by
  have none7 : (lawL.drop 7).v c Q ⟨LV1 D i d vl vs n e lead note .none .none, H⟩ := by
    have fin := law_8none (vl := vl) (vs := vs) (bk := .none) (hd := .none) (n := n) (e := e) (lead := lead) (note := note) r hK hc C h hI rfl Z
    refine consI (s := lawL.s 7) (b := lawL.drop 8) (hideS fun M hM => ?_)
    exact hM _ fin
  have tok7 : ∀ {b : Addr} {j : Int} {vv ve vc : V} {H' : Hp}, LF K₀ H' D .none t rd → TkAt H' b j vv ve vc → (lawL.drop 7).v c Q ⟨LV1 D i d vl vs n e lead note (.ref b) (.tup [.int j, vv, ve, vc]), H'⟩ := fun h hb => by
    refine consI (s := lawL.s 7) (b := lawL.drop 8) (law_s7tok r hK hc h fun H' g1 g2 => ?_)
    exact law_8tok r hK hc C g1 hI (hb.kp h.tk g2) Z
  have six : ∀ {bk hd : V}, LT H bk hd → (lawL.drop 6).v c Q ⟨LV1 D i d vl vs n e lead note bk hd, H⟩ := fun hL => by
    refine consI (s := lawL.s 6) (b := lawL.drop 7) (law_s6 r hK hc hn hn2 (fun _ _ => ?_) fun _ b j vv ve vc H' g1 g2 => tok7 (h.kpa g2) g1)
    cases hL with
    | non => exact none7
    | tok b j vv ve vc hb => exact tok7 h hb
  exact consI (s := lawL.s 5) (b := lawL.drop 6) (law_s5 (fun _ _ => six .non) fun _ => six hL)
/-- one round of the law -/
theorem law_iter (r : Rdy c lawN) (hK : c.K = KK P) (hc : c.Calls 6) (C : LC c D) (h : LF K₀ H D .none t rd) (hI : LI D t i d rd) (hL : LT H vl vs) (hn : 0 ≤ n) (hn2 : n < 1000000) (Z : LQ K₀ D Q) :
    lawL.v c Q ⟨LV D i d vl vs ++ [(.knumber, .int n)], H⟩ := by
  have b30 : n < 2 ^ 30 := Int.lt_trans hn2 (by decide)
  have fin := law_5 (n := n) (e := n / 4 % 6) (lead := decide (n % 2 = 1)) (note := decide (n / 2 % 2 = 1)) r hK hc C h hI hL hn hn2 Z
  have f4 : (lawL.drop 4).v c Q ⟨LV D i d vl vs ++ [(.knumber, .int n), (.klead, .bool (decide (n % 2 = 1))), (.knote, .bool (decide (n / 2 % 2 = 1))), (.kdeed, .int (n / 4 % 6)), (.kback, .none)], H⟩ :=
    consI (s := lawL.s 4) (b := lawL.drop 5) (hideS fun M hM => hM _ fin)
  have f3 : (lawL.drop 3).v c Q ⟨LV D i d vl vs ++ [(.knumber, .int n), (.klead, .bool (decide (n % 2 = 1))), (.knote, .bool (decide (n / 2 % 2 = 1))), (.kdeed, .int (n / 4 % 6))], H⟩ :=
    consI (s := lawL.s 3) (b := lawL.drop 4) (hideS fun M hM => hM _ f4)
  refine consI (s := lawL.s 0) (b := lawL.drop 1) ?_
  refine And.intro (by decide) ?_
  refine consI (s := lawL.s 1) (b := lawL.drop 2) ?_
  refine And.intro ⟨by decide, hn, b30, by decide⟩ ?_
  refine And.intro (by decide) ?_
  refine consI (s := lawL.s 2) (b := lawL.drop 3) (hideS fun M hM => ?_)
  refine And.intro ⟨by decide, hn, b30, by decide⟩ ?_
  refine And.intro (by decide) ?_
  exact hM _ f3
end

set_option genSizeOf false
set_option genInjectivity false
section
variable {K₀ H : Hp} {D : LD} {u : V} {t : T} {r : Nat} {it sl : Addr} {vs : List V} {k : Nat} {l s : V}
theorem LF.re (h : LF K₀ H D u t r) {K' : Hp} (hk : ∀ b o, b ≠ D.a → b ≠ D.f → b ≠ D.ra → K' b = some o → H b = some o) : LF K' H D u t r := ⟨h.tk, h.p, h.l, h.r, hk⟩
theorem LF.atit (h : LF K₀ H D u t r) (hi : H it = some (.liter sl k)) {o : O} : LF (H.upd it o) (H.upd it o) D u t r :=
  ⟨⟨(upd_ne (ob_ne h.tk.tok hi fun e => by cases e)).trans h.tk.tok, (upd_ne (ob_ne h.tk.txt hi fun e => by cases e)).trans h.tk.txt⟩, (upd_ne (ob_ne h.p hi fun e => by cases e)).trans h.p, (upd_ne (ob_ne h.l hi fun e => by cases e)).trans h.l,
    (upd_ne (ob_ne h.r hi fun e => by cases e)).trans h.r, fun _ _ _ _ _ e => e⟩
theorem LT.atit (h : LT H l s) (hi : H it = some (.liter sl k)) {o : O} : LT (H.upd it o) l s := by
  cases h with
  | non => exact .non
  | tok b j vv ve vc h => exact .tok b j vv ve vc ⟨(upd_ne (ob_ne h.at_ hi fun e => by cases e)).trans h.at_, h.ds, h.h1, h.h2, h.h3⟩
/-- what holds between two numbers -/
structure LP (D : LD) (sl it : Addr) (vs : List V) (k : Nat) (g : T × Nat × Nat × Nat × V × V) (H : Hp) : Prop where
  f : LF (fun _ => none) H D .none g.1 g.2.2.2.1
  i : LI D g.1 g.2.1 g.2.2.1 g.2.2.2.1
  t : LT H g.2.2.2.2.1 g.2.2.2.2.2
  hi : H it = some (.liter sl k)
  hs : H sl = some (.list vs)
/-- and after one more -/
theorem LP.go {g g' : T × Nat × Nat × Nat × V × V} {H' : Hp} (h : LP D sl it vs k g H) (f : LF (H.upd it (.liter sl (k + 1))) H' D .none g'.1 g'.2.2.2.1) (i : LI D g'.1 g'.2.1 g'.2.2.1 g'.2.2.2.1) (t : LT H' g'.2.2.2.2.1 g'.2.2.2.2.2) : LP D sl it vs (k + 1) g' H' :=
  ⟨f.re fun _ _ _ _ _ e => (by cases e), i, t, f.keep it _ (ob_ne h.hi h.f.tk.tok fun e => by cases e) (ob_ne h.hi h.f.tk.txt fun e => by cases e) (ob_ne h.hi h.f.r fun e => by cases e) upd_same,
    f.keep sl _ (ob_ne h.hs h.f.tk.tok fun e => by cases e) (ob_ne h.hs h.f.tk.txt fun e => by cases e) (ob_ne h.hs h.f.r fun e => by cases e) ((upd_ne (ob_ne h.hs h.hi fun e => by cases e)).trans h.hs)⟩
end
section
variable {P : Params} {D : LD} {H : Hp} {Q : Fl → St → Prop}
theorem row_in {row : List Int} {v : V} {i : Nat} {a b : Int} (h : (sliceL (row.map V.int) a b)[i]? = some v) : ∃ n, n ∈ row ∧ v = .int n := by
  obtain ⟨n, hn, e⟩ := List.mem_map.mp (List.mem_of_mem_drop (List.mem_of_mem_take (List.mem_of_getElem? h)))
  exact ⟨n, hn, e.symm⟩
theorem l49 {row : List Int} (h : RowOk row) : (row.map V.int).length ≤ 1000000 := by rw [List.length_map, h.1]; decide
/-- the law, from `at = 0` on -/
theorem law_loop (r : Rdy c lawN) (hK : c.K = KK P) (hc : c.Calls 6) (C : LC c D) {t : T} (h : TK H D.a D.f D.x D.nF .none t) (hp : H D.pa = some (.list (D.ps.map pcV))) (hl : H D.la = some (.list (D.L.map natV))) (hra : H D.ra = some (.cell none)) (hI : LI D t 0 0 0)
    {ro sa : Addr} {x : List Nat} {src : V} {row : List Int} (hro : H ro = some (.list (row.map .int))) (hrow : RowOk row) (hret : ∀ σ, Q (.ret (.bool true)) σ) :
    (lawB.drop 8).v c Q ⟨[(.kscript, .ref sa), (.krow, .ref ro), (.ktext, .str x), (.klabel, .str D.nF), (.ksource, src), (.kreader, .ref D.a), (.kpieces, .ref D.pa), (.klines, .ref D.la)], H⟩ := by
  have F0 : LF (fun _ => none) (H.upd D.ra (.cell (some (.int (0 : Nat))))) D .none t 0 :=
    ⟨⟨(upd_ne (ob_ne h.tok hra fun e => by cases e)).trans h.tok, (upd_ne (ob_ne h.txt hra fun e => by cases e)).trans h.txt⟩, (upd_ne (ob_ne hp hra fun e => by cases e)).trans hp, (upd_ne (ob_ne hl hra fun e => by cases e)).trans hl, upd_same, fun _ _ _ _ _ e => by cases e⟩
  have nro : ro ≠ D.ra := ob_ne hro hra fun e => by cases e
  refine Exists.intro _ (Exists.intro _ (And.intro ⟨C.cell, hra⟩ ?_))
  refine RunI.forL (G := T × Nat × Nat × Nat × V × V) r (by decide +kernel) ?_
  refine Exists.intro _ (And.intro ⟨(upd_ne nro).trans hro, l49 hrow, by decide, by decide⟩ fun sl hsl => ?_)
  refine ⟨sl, _, fun g => LV D g.2.1 g.2.2.1 g.2.2.2.2.1 g.2.2.2.2.2, fun it k g H => LP D sl it (sliceL (row.map .int) 29 49) k g H, (t, 0, 0, 0, .none, .none), rfl, upd_same, ⟨⟨rfl, rfl, rfl, rfl, rfl, rfl, rfl, rfl, trivial⟩, fun it hit => ?_⟩, fun it i g H h => ⟨h.hi, h.hs⟩, ?_, ?_⟩
  · exact ⟨(F0.kpa ((Kpa.refl _).new hsl)).kpa ((Kpa.refl _).new hit), hI, .non, upd_same, (upd_ne (new_ne hit upd_same)).trans upd_same⟩
  · intro it i v g H1 hv hP J hJ hR
    obtain ⟨n, hn, rfl⟩ := row_in hv
    obtain ⟨t, i', d, rd, vl, vs⟩ := g
    have q := hrow.2 n hn
    refine putK_mk ?_
    exact law_iter r hK hc C (hP.f.atit hP.hi) hP.i (hP.t.atit hP.hi) q.1 q.2 ⟨fun t2 i2 d2 r2 vl2 vs2 l H2 f2 I2 L2 s2 => hJ (t2, i2, d2, r2, vl2, vs2) l H2 s2 (hP.go f2 I2 L2), fun σ => hR _ _ (hret σ)⟩
  · intro it g H1 hP
    exact hret _
end

section
variable {P : Params} {H : Hp} {Q : Fl → St → Prop} {J : Fl → St → Prop} {M : St → Prop} {sa ro : Addr} {x nF : List Nat} {row : List Int} {n : Int} {src : V}
theorem itR {ro : Addr} (hro : H ro = some (.list (row.map .int))) (hn : row[0]? = some n) : ItemC c H (.ref ro) (.int 0) (.int n) :=
  .inl (.inr (.inl ⟨ro, _, 0, rfl, hro, rfl, by decide, by decide, by show (row.map V.int)[0]? = _; rw [List.getElem?_map, hn]; rfl⟩))
theorem itLb {k : Int} {s : List Nat} (h0 : 0 ≤ k) (h1 : k < 3) (h : LABELS[k.toNat]? = some s) : ItemC c H (.tup (LABELS.map .str)) (.int k) (.str s) :=
  .inl (.inl ⟨_, k, rfl, rfl, h0, by omega, by rw [List.getElem?_map, h]; rfl⟩)
theorem lab_ok {k : Int} (h0 : 0 ≤ k) (h1 : k < 3) : ∃ s, LABELS[k.toNat]? = some s ∧ ∀ n ∈ s, n < 1114112 := by
  have h : k.toNat < LABELS.length := by show k.toNat < 3; omega
  refine ⟨_, List.getElem?_eq_getElem h, ?_⟩
  have q : ∀ l ∈ LABELS, ∀ n ∈ l, n < 1114112 := by decide
  exact q _ (List.getElem_mem h)
theorem emod_in {n k : Int} (h : 0 < k) : 0 ≤ n % k ∧ n % k < k := ⟨Int.emod_nonneg _ (Int.ne_of_gt h), Int.emod_lt_of_pos _ h⟩
theorem cut_n {n : Int} : 0 ≤ 29 - n % 29 := by omega
theorem l63' {row : List Int} (h : RowOk row) {b : Int} : (sliceL row 1 b).length ≤ 63 := by
  unfold sliceL
  rw [List.length_take, List.length_drop, h.1]
  exact Nat.le_trans (Nat.min_le_right _ _) (by decide)
theorem slice_map {row : List Int} {a b : Int} : sliceL (row.map V.int) a b = (sliceL row a b).map V.int := by unfold sliceL; rw [List.map_take, List.map_drop]
theorem w0 (r : Rdy c lawN) (hK : c.K = KK P) (hc : c.Calls 6) {ns : List Int} (hb : BL c sa (ns.map .int)) (hl : ns.length ≤ 63) (hM : ∀ ro row H', RowOk row → H' ro = some (.list (row.map .int)) → Kpa H H' → M ⟨[(.kscript, .ref sa), (.krow, .ref ro)], H'⟩) :
    (lawB.s 0).v c (seqV M J) ⟨[(.kscript, .ref sa)], H⟩ := by
  refine CallI.mk (row_spec P r.K hK (Cx.Calls.le hc (by decide)) hb hl fun ro row H1 g1 g2 g3 => ?_)
  exact hM ro row H1 g1 g2 g3
theorem w1 (r : Rdy c lawN) (hK : c.K = KK P) (hc : c.Calls 6) (hrow : RowOk row) (hro : H ro = some (.list (row.map .int))) (hn : row[0]? = some n) (hM : ∀ x H', x.length ≤ 40 → (∀ i, x.getD i 0 < 256) → Kpa H H' → M ⟨[(.kscript, .ref sa), (.krow, .ref ro), (.ktext, .str x)], H'⟩) :
    (lawB.s 1).v c (seqV M J) ⟨[(.kscript, .ref sa), (.krow, .ref ro)], H⟩ := by
  refine Exists.intro _ (And.intro (itR hro hn) ?_)
  refine And.intro (by decide) ?_
  refine Exists.intro _ (And.intro ⟨hro, l49 hrow, by decide, cut_n⟩ fun sl hsl => ?_)
  refine CallI.mk (text_spec P r.K hK (Cx.Calls.le hc (by decide)) (ns := sliceL row 1 (29 - n % 29)) (upd_same.trans (by rw [slice_map])) (fun v hv => (hrow.2 v (List.mem_of_mem_drop (List.mem_of_mem_take hv))).1) (l63' hrow) fun x H2 g1 g2 g3 => ?_)
  exact hM x H2 g1 g2 (((Kpa.refl _).new hsl).trans g3)
theorem w2 (hro : H ro = some (.list (row.map .int))) (hn : row[0]? = some n) (h0 : 0 ≤ n) (h1 : n < 1000000) (hM : ∀ nF, (∀ n ∈ nF, n < 1114112) → M ⟨[(.kscript, .ref sa), (.krow, .ref ro), (.ktext, .str x), (.klabel, .str nF)], H⟩) :
    (lawB.s 2).v c (seqV M J) ⟨[(.kscript, .ref sa), (.krow, .ref ro), (.ktext, .str x)], H⟩ := by
  have e := emod_in (n := n / 29) (k := 3) (by decide)
  obtain ⟨s, h2, h3⟩ := lab_ok e.1 e.2
  refine Exists.intro _ (And.intro (itR hro hn) ?_)
  refine And.intro ⟨by decide, h0, Int.lt_trans h1 (by decide), by decide⟩ ?_
  refine And.intro (by decide) ?_
  refine Exists.intro _ (And.intro (itLb e.1 e.2 h2) ?_)
  exact hM s h3
theorem w4 (hx : Lo x) (hl : (enc x).length ≤ 1000000) (hro : H ro = some (.list (row.map .int))) (hn : row[0]? = some n) (h0 : 0 ≤ n) (h1 : n < 1000000) (hM : ∀ src, src = .str x ∨ src = .bytes (enc x).toArray → M ⟨[(.kscript, .ref sa), (.krow, .ref ro), (.ktext, .str x), (.klabel, .str nF), (.ksource, src)], H⟩) :
    (lawB.s 4).v c (seqV M J) ⟨[(.kscript, .ref sa), (.krow, .ref ro), (.ktext, .str x), (.klabel, .str nF), (.ksource, .str x)], H⟩ := by
  refine Exists.intro _ (And.intro (itR hro hn) ?_)
  refine And.intro ⟨by decide, h0, Int.lt_trans h1 (by decide), by decide⟩ ?_
  refine And.intro (by decide) ?_
  by_cases h : n / 87 % 2 = 1
  · (conv => whnf)
    refine brT (decide_eq_true h) ?_
    refine CallI.mk (CallV.encode hx hl ?_)
    exact hM _ (.inr rfl)
  · (conv => whnf)
    refine brF (decide_eq_false h) ?_
    exact hM _ (.inl rfl)
theorem w5 (r : Rdy c lawN) (hK : c.K = KK P) (hc : c.Calls 6) (hx : Lo x) (hl : (enc x).length ≤ 1000000) (hs : src = .str x ∨ src = .bytes (enc x).toArray) (hM : ∀ a f H', TK H' a f x nF .none T0 → Kpa H H' → M ⟨[(.kscript, .ref sa), (.krow, .ref ro), (.ktext, .str x), (.klabel, .str nF), (.ksource, src), (.kreader, .ref a)], H'⟩) :
    (lawB.s 5).v c (seqV M J) ⟨[(.kscript, .ref sa), (.krow, .ref ro), (.ktext, .str x), (.klabel, .str nF), (.ksource, src)], H⟩ := by
  by_cases h : nF = STRING
  · subst h
    (conv => whnf)
    rcases hs with rfl | rfl
    · refine CallI.mk (tk_str (P := P) r.K hK (Cx.Calls.le hc (by decide)) fun a f H' g1 g2 => ?_)
      exact hM a f H' g1 g2
    · refine CallI.mk (tk_by (P := P) r.K hK (Cx.Calls.le hc (by decide)) hx hl fun a f H' g1 g2 => ?_)
      exact hM a f H' g1 g2
  · (conv => whnf)
    refine brF (decide_eq_false h) ?_
    rcases hs with rfl | rfl
    · refine CallI.mk (tk_strL (P := P) r.K hK (Cx.Calls.le hc (by decide)) fun a f H' g1 g2 => ?_)
      exact hM a f H' g1 g2
    · refine CallI.mk (tk_byL (P := P) r.K hK (Cx.Calls.le hc (by decide)) hx hl fun a f H' g1 g2 => ?_)
      exact hM a f H' g1 g2
theorem w6 (r : Rdy c lawN) (hK : c.K = KK P) (hc : c.Calls 6) (hF : ∀ n ∈ nF, n < 1114112) {a f : Addr} (hT : TK H a f x nF .none T0) (hM : M ⟨[(.kscript, .ref sa), (.krow, .ref ro), (.ktext, .str x), (.klabel, .str nF), (.ksource, src), (.kreader, .ref a)], H⟩) :
    (lawB.s 6).v c (seqV M J) ⟨[(.kscript, .ref sa), (.krow, .ref ro), (.ktext, .str x), (.klabel, .str nF), (.ksource, src), (.kreader, .ref a)], H⟩ := by
  (repeat (first | refine attI (by ((repeat refine (upd_ne (by first | assumption | exact Ne.symm (by assumption))).trans ?_); first | exact upd_same | assumption | exact TK.tok (by assumption) | exact TK.txt (by assumption))) ?_ | refine stoI (by ((repeat refine (upd_ne (by first | assumption | exact Ne.symm (by assumption))).trans ?_); first | exact upd_same | assumption | exact TK.tok (by assumption) | exact TK.txt (by assumption))) ?_ | refine metI (by ((repeat refine (upd_ne (by first | assumption | exact Ne.symm (by assumption))).trans ?_); first | exact upd_same | assumption | exact TK.tok (by assumption) | exact TK.txt (by assumption))) ?_))
  refine CallI.mk (where_spec P r.K hK (Cx.Calls.le hc (by decide)) hT ?_)
  refine And.intro ⟨rfl, pds2 hF _⟩ ?_
  exact hM
theorem w7 (r : Rdy c lawN) (hK : c.K = KK P) (hc : c.Calls 6) (hx : ∀ i, x.getD i 0 < 256) (hl : x.length ≤ 40) {a : Addr} (hM : ∀ pa la H', PSt H H' pa la (pcs x FUEL 0).1 (pcs x FUEL 0).2 → M ⟨[(.kscript, .ref sa), (.krow, .ref ro), (.ktext, .str x), (.klabel, .str nF), (.ksource, src), (.kreader, .ref a), (.kpieces, .ref pa), (.klines, .ref la)], H'⟩) :
    (lawB.s 7).v c (seqV M J) ⟨[(.kscript, .ref sa), (.krow, .ref ro), (.ktext, .str x), (.klabel, .str nF), (.ksource, src), (.kreader, .ref a)], H⟩ := by
  refine CallI.mk (pieces_spec P r.K hK (Cx.Calls.le hc (by decide)) hx hl fun pa la H' hS => ?_)
  exact hM pa la H' hS
theorem utf8_len (n : Nat) : (Str.utf8Of n).length ≤ 4 := by
  unfold Str.utf8Of
  (repeat' split) <;> simp
theorem enc4_len (x : List Nat) : (enc x).length ≤ 4 * x.length := by
  induction x with
  | nil => exact Nat.le_refl _
  | cons n x ih =>
    have h := utf8_len n
    unfold enc at ih ⊢
    rw [List.flatMap_cons, List.length_append, List.length_cons]
    omega
theorem e160 {a b : Nat} (h : a ≤ 4 * b) (h2 : b ≤ 40) : a ≤ 1000000 := by omega
theorem p200 {a b : Nat} (h : a ≤ 2 * (b - 0) + 1) (h2 : b ≤ 40) : a ≤ 200 := by omega
theorem lin1000 {a b : Nat} (h : a ≤ b - 0) (h2 : b ≤ 40) : a ≤ 1000 := by omega
theorem cnt0 {L : List Nat} : T0.line = 1 + cnt L 0 := by simp [T0, cnt]
/-- the whole law: it answers True -/
theorem law_walk (r : Rdy c lawN) (hK : c.K = KK P) (hc : c.Calls 6) {ra : Addr} {ns : List Int} (hb : BL c sa (ns.map .int)) (hl : ns.length ≤ 63) (hcell : c.env.cells.lookup (nm .kread) = some ra) (hra : H ra = some (.cell none)) (hret : ∀ σ, Q (.ret (.bool true)) σ) :
    lawB.v c Q ⟨[(.kscript, .ref sa)], H⟩ := by
  refine consI (s := lawB.s 0) (b := lawB.drop 1) (w0 r hK hc hb hl fun ro row H1 hrow hro k1 => ?_)
  obtain ⟨n, hn⟩ : ∃ n, row[0]? = some n := ⟨_, List.getElem?_eq_getElem (by rw [hrow.1]; decide)⟩
  obtain ⟨hn0, hn1⟩ := hrow.2 n (List.mem_of_getElem? hn)
  refine consI (s := lawB.s 1) (b := lawB.drop 2) (w1 r hK hc hrow hro hn fun x H2 hx4 hx k2 => ?_)
  refine consI (s := lawB.s 2) (b := lawB.drop 3) (w2 (k2 _ _ hro) hn hn0 hn1 fun nF hF => ?_)
  refine consI (s := lawB.s 3) (b := lawB.drop 4) ?_
  have hlo := lo_of hx
  have hen := e160 (enc4_len x) hx4
  refine consI (s := lawB.s 4) (b := lawB.drop 5) (w4 hlo hen (k2 _ _ hro) hn hn0 hn1 fun src hs => ?_)
  refine consI (s := lawB.s 5) (b := lawB.drop 6) (w5 r hK hc hlo hen hs fun a f H3 hT k3 => ?_)
  refine consI (s := lawB.s 6) (b := lawB.drop 7) (w6 r hK hc hF hT ?_)
  refine consI (s := lawB.s 7) (b := lawB.drop 8) (w7 r hK hc hx hx4 fun pa la H4 hS => ?_)
  obtain ⟨z1, z2, z3, z4⟩ := pcs_sz hx4 FUEL 0 (Nat.zero_le _) (Nat.lt_of_le_of_lt (Nat.sub_le _ _) (Nat.lt_of_le_of_lt hx4 (by decide)))
  exact law_loop (D := ⟨a, f, pa, la, ra, x, nF, (pcs x FUEL 0).1, (pcs x FUEL 0).2⟩) r hK hc ⟨hF, hx4, pcs_lo hlo FUEL 0, z4, p200 z1 hx4, lin1000 z2 hx4, hcell⟩ ⟨hS.keep _ _ hT.tok, hS.keep _ _ hT.txt⟩ hS.p hS.l (hS.keep _ _ (k3 _ _ (k2 _ _ (k1 _ _ hra)))) ⟨inv_start hx4, cnt0⟩
    (hS.keep _ _ (k3 _ _ (k2 _ _ hro))) hrow hret
end

end Mine
end
section
open PySem PySem.W PySem.Calls PyProof.Rows
set_option maxRecDepth 100000
set_option maxHeartbeats 8000000
namespace Mine
universe u v
/-! the top, run by the kernel: states are forced from time to time, none is written out -/
section
variable {β : Type v} {α : Type u}
noncomputable def fNat (n : Nat) : (Nat → β) → β := @Nat.rec (fun _ => (Nat → β) → β) (fun k => k Nat.zero) (fun m _ k => k (Nat.succ m)) n
noncomputable def fInt (i : Int) (k : Int → β) : β := @Int.rec (fun _ => β) (fun n => fNat n fun n => k (.ofNat n)) (fun n => fNat n fun n => k (.negSucc n)) i
noncomputable def fBool (b : Bool) (k : Bool → β) : β := @Bool.rec (fun _ => β) (k false) (k true) b
noncomputable def fOpt (f : α → (α → β) → β) (o : Option α) (k : Option α → β) : β := @Option.rec α (fun _ => β) (k none) (fun a => f a fun a => k (some a)) o
noncomputable def fList (f : α → (α → β) → β) (l : List α) : (List α → β) → β := @List.rec α (fun _ => (List α → β) → β) (fun k => k []) (fun a _ ih k => f a fun a => ih fun l => k (a :: l)) l
noncomputable def fArr (f : α → (α → β) → β) (l : Array α) (k : Array α → β) : β := @Array.rec α (fun _ => β) (fun l => fList f l fun l => k ⟨l⟩) l
noncomputable def fStr (s : Str) (k : Str → β) : β := @Str.rec (fun _ => β) (fun c => fArr fNat c fun c => k ⟨c⟩) s
noncomputable def fVal (v : Value) (k : Value → β) : β := @Value.rec (fun _ => β) (k .none) (k .ellipsis) (k .notImplemented) (fun b => fBool b fun b => k (.bool b)) (fun i t => fInt i fun i => fNat t fun t => k (.int i t))
  (fun b t => k (.float b t)) (fun s t => fStr s fun s => fNat t fun t => k (.str s t)) (fun b t => k (.bytes b t)) (fun n => k (.type n)) (fun n => k (.builtin n)) (fun a => fNat a fun a => k (.ref a)) v
noncomputable def fEnt (e : DictEntry) (k : DictEntry → β) : β := @DictEntry.rec (fun _ => β) (fun h x v => fVal x fun x => fVal v fun v => k ⟨h, x, v⟩) e
noncomputable def fFunc (f : FuncData) (k : FuncData → β) : β := @FuncData.rec (fun _ => β) (fun name qualname params body scope globals closure defaults kwdefaults doc pyModule annotations code closureTuple builtins =>
  fStr name fun name => fStr qualname fun qualname => fNat globals fun globals => fVal defaults fun defaults => fVal kwdefaults fun kwdefaults => fVal doc fun doc => fVal pyModule fun pyModule => fOpt fNat annotations fun annotations =>
  fVal code fun code => fVal closureTuple fun closureTuple => fNat builtins fun builtins => k ⟨name, qualname, params, body, scope, globals, closure, defaults, kwdefaults, doc, pyModule, annotations, code, closureTuple, builtins⟩) f
noncomputable def fCls (c : ClassData) (k : ClassData → β) : β := @ClassData.rec (fun _ => β) (fun name bases mro ns qualname hasDict slotNames subclasses abstract collection hasDel =>
  fStr name fun name => fList fVal bases fun bases => fList fVal mro fun mro => fNat ns fun ns => fStr qualname fun qualname => fBool hasDict fun hasDict => fList fStr slotNames fun slotNames => fList fVal subclasses fun subclasses =>
  fBool abstract fun abstract => fOpt fBool collection fun collection => fBool hasDel fun hasDel => k ⟨name, bases, mro, ns, qualname, hasDict, slotNames, subclasses, abstract, collection, hasDel⟩) c
noncomputable def fData (d : Data) (k : Data → β) : β := @Data.rec (fun _ => β) (k .plain) (fun v => fVal v fun v => k (.prim v)) (fun xs n => fArr fVal xs fun xs => fNat n fun n => k (.seq xs n)) (fun es n => fArr fEnt es fun es => fNat n fun n => k (.dict es n))
  (fun es n t => k (.set es n t)) (fun b n => k (.bytearray b n)) (fun v => fOpt fVal v fun v => k (.cell v)) (fun f => fFunc f fun f => k (.func f)) (fun c => fCls c fun c => k (.cls c)) (fun vs => fArr fVal vs fun vs => k (.fields vs)) (k .freed) d
noncomputable def fObj (o : Obj) (k : Obj → β) : β := @Obj.rec (fun _ => β) (fun c d dt sl => fVal c fun c => fOpt fNat d fun d => fData dt fun dt => fArr (fOpt fVal) sl fun sl => k ⟨c, d, dt, sl⟩) o
noncomputable def fBT (t : BT) : (BT → β) → β := @BT.rec (fun _ => (BT → β) → β) (fun k => k .nil) (fun v _ _ ihl ihr k => fObj v fun v => ihl fun l => ihr fun r => k (.node v l r)) t
noncomputable def fSh (s : SharedT) (k : SharedT → β) : β := @SharedT.rec (fun _ => β) (fun t n life gens drawn toks os => fBT t fun t => fNat n fun n => fNat toks fun toks => k ⟨t, n, life, gens, drawn, toks, os⟩) s

/-- a forcing changes nothing -/
noncomputable abbrev Id (f : α → (α → β) → β) : Prop := ∀ a k, f a k = k a
theorem fNat_id : Id (β := β) fNat := fun a _ => by cases a <;> rfl
theorem fInt_id : Id (β := β) fInt := fun a k => by cases a <;> exact fNat_id _ _
theorem fBool_id : Id (β := β) fBool := fun a _ => by cases a <;> rfl
theorem fOpt_id {f : α → (α → β) → β} (h : Id f) : Id (fOpt f) := fun a k => by
  cases a with
  | none => rfl
  | some a => exact h a _
theorem fList_id {f : α → (α → β) → β} (h : Id f) : Id (fList f) := fun l => by
  induction l with
  | nil => intro k; rfl
  | cons a l ih => intro k; exact (h a _).trans (ih _)
theorem fArr_id {f : α → (α → β) → β} (h : Id f) : Id (fArr f) := fun ⟨_⟩ _ => fList_id h _ _
theorem fStr_id : Id (β := β) fStr := fun ⟨c⟩ k => by delta fStr; dsimp only; rw [fArr_id fNat_id]
theorem fVal_id : Id (β := β) fVal := fun v k => by
  cases v <;> (delta fVal; dsimp only) <;> (try simp only [fBool_id _ _, fInt_id _ _, fStr_id _ _, fNat_id _ _])
theorem fEnt_id : Id (β := β) fEnt := fun ⟨_, x, _⟩ _ => by delta fEnt; dsimp only; simp only [fVal_id _ _]
theorem fFunc_id : Id (β := β) fFunc := fun ⟨n, _, _, _, _, _, _, _, _, _, _, _, _, _, _⟩ _ => by
  delta fFunc; dsimp only; simp only [fStr_id _ _, fNat_id _ _, fVal_id _ _, fOpt_id fNat_id _ _]
theorem fCls_id : Id (β := β) fCls := fun ⟨n, _, _, _, _, _, _, _, _, _, _⟩ _ => by
  delta fCls; dsimp only; simp only [fStr_id _ _, fNat_id _ _, fBool_id _ _, fList_id fVal_id _ _, fList_id fStr_id _ _, fOpt_id fBool_id _ _]
theorem fData_id : Id (β := β) fData := fun d k => by
  cases d <;> (delta fData; dsimp only) <;> (try simp only [fVal_id _ _, fArr_id fVal_id _ _, fNat_id _ _, fArr_id fEnt_id _ _, fOpt_id fVal_id _ _, fFunc_id _ _, fCls_id _ _])
theorem fObj_id : Id (β := β) fObj := fun ⟨c, _, _, _⟩ _ => by
  delta fObj; dsimp only; simp only [fVal_id _ _, fOpt_id fNat_id _ _, fData_id _ _, fArr_id (fOpt_id fVal_id) _ _]
theorem fBT_id : Id (β := β) fBT := fun t => by
  induction t with
  | nil => intro k; rfl
  | node v l r ihl ihr => intro k; change fObj v (fun v => fBT l fun l => fBT r fun r => k (.node v l r)) = _; rw [fObj_id, ihl, ihr]
theorem fSh_id : Id (β := β) fSh := fun ⟨t, _, _, _, _, _, _⟩ _ => by delta fSh; dsimp only; simp only [fBT_id _ _, fNat_id _ _]
end

noncomputable abbrev tbQ := PySem.W.Fast.tw14364793385576792824
noncomputable abbrev stepTQ := PySem.W.Fast.tw10156331382660048174
noncomputable abbrev stepOkQ := PySem.W.Fast.tw6613529449190102663
noncomputable abbrev denQ := PySem.W.Fast.tw11892475500146522536
noncomputable abbrev seenQ := PySem.W.Fast.tw4187177175401517315
theorem tbQ_eq : tbQ = treeTable := PySem.W.Fast.te14364793385576792824.symm
theorem stepTQ_eq : stepTQ = stepT := PySem.W.Fast.te10156331382660048174.symm
theorem stepOkQ_eq : stepOkQ = stepOk := PySem.W.Fast.te6613529449190102663.symm
theorem denQ_eq : denQ = denote := PySem.W.Fast.te11892475500146522536.symm
theorem seenQ_eq : seenQ = openSeen := PySem.W.Fast.te4187177175401517315.symm

noncomputable def runK {α : Type u} (m : Nat) (p : Program) (w : World) (n₀ : Nat) (ann : Option Value) (k : SharedT → Option α) (n : Nat) : SharedT → Thread → Option α :=
  @Nat.rec (fun _ => SharedT → Thread → Option α) (fun _ _ => none) (fun n ih s t => @Bool.rec (fun _ => Option α)
    (@Bool.rec (fun _ => Option α) none
      (@Option.rec (SharedT × Thread) (fun _ => Option α) none (fun r => @Prod.rec SharedT Thread (fun _ => Option α) (fun s t => @Bool.rec (fun _ => Option α) (ih s t) (fSh s fun s => ih s t) (Nat.beq (n % m) 0)) r) (stepTQ (denQ tbQ) p w s t))
      (stepOkQ n₀ ann t))
    (k s) (through t)) n
theorem runK_ok {α : Type u} {m : Nat} {p : Program} {w : World} {n₀ : Nat} {ann : Option Value} {k : SharedT → Option α} {x : α} : ∀ {n : Nat} {s : SharedT} {t : Thread}, runK m p w n₀ ann k n s t = some x →
    ∃ s' : SharedT, topRun treeTable p w n₀ ann n s.abs t = some s'.abs ∧ k s' = some x
  | 0, _, _, h => by cases h
  | n + 1, s, t, h => by
    unfold topRun
    change @Bool.rec (fun _ => Option α) _ _ (through t) = _ at h
    cases h1 : through t with
    | true => rw [h1] at h; exact ⟨s, rfl, h⟩
    | false =>
      rw [h1] at h
      change @Bool.rec (fun _ => Option α) _ _ (stepOkQ n₀ ann t) = _ at h
      have e : stepOkQ n₀ ann t = stepOk n₀ ann t := by rw [stepOkQ_eq]
      rw [e] at h
      cases h2 : stepOk n₀ ann t with
      | false => rw [h2] at h; cases h
      | true =>
        rw [h2] at h
        change @Option.rec (SharedT × Thread) (fun _ => Option α) _ _ (stepTQ (denQ tbQ) p w s t) = _ at h
        have e : stepTQ (denQ tbQ) p w s t = stepT (denote treeTable) p w s t := by rw [stepTQ_eq, denQ_eq, tbQ_eq]
        rw [e] at h
        cases h3 : stepT (denote treeTable) p w s t with
        | none => rw [h3] at h; cases h
        | some r =>
          obtain ⟨s', t'⟩ := r
          rw [h3] at h
          change @Bool.rec (fun _ => Option α) (runK m p w n₀ ann k n s' t') (fSh s' fun s => runK m p w n₀ ann k n s t') (Nat.beq (n % m) 0) = _ at h
          rw [fSh_id] at h
          have h : runK m p w n₀ ann k n s' t' = some x := by cases h4 : Nat.beq (n % m) 0 <;> rw [h4] at h <;> exact h
          dsimp only
          rw [stepT_spec h3]
          exact runK_ok h

noncomputable def bootTree : Nat → List Obj → BT → BT
  | _, [], t => t
  | n, o :: os, t => bootTree (n + 1) os (t.ins n o)
noncomputable def bootS (P : Params) (os : OsState) : SharedT := ⟨bootTree 0 (boot_heap P).objs.toList .nil, (boot_heap P).objs.size, (boot_heap P).life, #[], boot_drawn, boot_toks, os⟩

noncomputable abbrev pw : Program := PySem.Challenge.pw_ji0023_01
noncomputable def qv : Program := { pw with main := { pw.main with body := [top 0, top 2, top 3, top 4, top 6, top 7, top 8, top 9, top 10, top 11, top 12, top 13, top 14, top 15, top 16, top 17, top 18, top 20, top 21, top 22, top 23, top 24, top 25, top 26, top 27, top 28, top 29, top 30, top 31] } }
noncomputable abbrev rw' : RowW := PySem.Challenge.rw_ji0023_01.row.toRowW
noncomputable abbrev Xt : Shared → Bool := fun s => xlAt qv [] s && recOk (RowW.records rw') s
theorem left_of {p q : Program} {loose : List Str} {Xt : Shared → Bool} {α : Type} {Yf : Shared → α} {Ya : World → α} {N : Nat} {g0 : Bool} {H₀ : Params → Heap} {gs₀ : Array GenState} {d₀ : Drawn} {k₀ : Nat}
    (open_ : ∀ w : World, (fencedOpening treeTable p w N).map (fun s => (s.heap, s.gens, s.drawn, s.toks)) = some (H₀ w.params, gs₀, d₀, k₀))
    (ns : ∀ w : World, ((H₀ w.params).isNs mainGlobals && gs₀.size == 0) = true)
    (run : ∀ (w : World) (os : OsState), ∃ s₁, topRun treeTable p w (H₀ w.params).objs.size ((H₀ w.params).nsMap mainGlobals "__annotations__") N ⟨H₀ w.params, gs₀, d₀, k₀, os⟩ (topStub p) = some s₁ ∧
      ((staticsOk (importedModules p.main.body) (H₀ w.params) s₁.heap && namesBound p s₁.heap && gensDone s₁ && laidKept (H₀ w.params) s₁.heap), openSeen q loose (importedModules p.main.body) Xt g0 s₁, Yf s₁) = (true, openGood q loose, Ya w)) : LeftO p q loose Xt Yf Ya N g0 := fun w => by
  obtain ⟨⟨h, gs, d, k, os⟩, e, e'⟩ := Option.map_eq_some_iff.mp (open_ w)
  obtain ⟨e1, e'⟩ := Prod.mk.inj e'
  obtain ⟨e2, e'⟩ := Prod.mk.inj e'
  obtain ⟨e3, e4⟩ := Prod.mk.inj e'
  dsimp only at e1 e2 e3 e4
  obtain ⟨s₁, r, q⟩ := run w os
  obtain ⟨q1, q⟩ := Prod.mk.inj q
  obtain ⟨q2, q3⟩ := Prod.mk.inj q
  have z := ns w
  rw [← e1, ← e2, ← e3, ← e4] at r
  rw [← e1] at q1
  rw [← e1, ← e2] at z
  unfold openEnds
  rw [e]
  show (topFrom treeTable p w N _).map _ = _
  have t : topFrom treeTable p w N ⟨h, gs, d, k, os⟩ = some s₁ := by
    unfold topFrom
    dsimp only
    rw [z]
    dsimp only
    rw [r]
    show (match staticsOk (importedModules p.main.body) h s₁.heap && namesBound p s₁.heap && gensDone s₁ && laidKept h s₁.heap with | true => some s₁ | false => none) = some s₁
    rw [q1]
  rw [t]
  exact congrArg some (Prod.ext q2 q3)
/-- one run, forced, gives what is asked -/
theorem run_of {p q : Program} {loose mods : List Str} {Xt : Shared → Bool} {α : Type} {Yf : Shared → α} {x : Bool × _ × α} {N m : Nat} {w : World} {s₀ : SharedT} {hl : List Obj} {h₀ : Heap} {S0 : Shared} (e1 : s₀.abs = S0) (e2 : hl = h₀.objs.toList)
    (E : (fSh s₀ fun s => fList fObj hl fun l => fNat l.length fun n₀ => fOpt fVal (h₀.nsMap mainGlobals "__annotations__") fun ann =>
      runK m p w n₀ ann (fun s => fList fObj (s.tree.list s.n) fun l' => some (staticsOk mods ⟨⟨l⟩, h₀.life⟩ ⟨⟨l'⟩, s.life⟩ && namesBound p ⟨⟨l'⟩, s.life⟩ && gensDone ⟨⟨⟨l'⟩, s.life⟩, s.gens, s.drawn, s.toks, s.os⟩ && laidKept ⟨⟨l⟩, h₀.life⟩ ⟨⟨l'⟩, s.life⟩,
        seenQ q loose mods Xt true ⟨⟨⟨l'⟩, s.life⟩, s.gens, s.drawn, s.toks, s.os⟩, Yf ⟨⟨⟨l'⟩, s.life⟩, s.gens, s.drawn, s.toks, s.os⟩)) N s (topStub p)) = some x) :
    ∃ s₁, topRun treeTable p w h₀.objs.size (h₀.nsMap mainGlobals "__annotations__") N S0 (topStub p) = some s₁ ∧
      ((staticsOk mods h₀ s₁.heap && namesBound p s₁.heap && gensDone s₁ && laidKept h₀ s₁.heap), openSeen q loose mods Xt true s₁, Yf s₁) = x := by
  subst e1 e2
  rw [fSh_id, fList_id fObj_id, fNat_id, fOpt_id fVal_id] at E
  obtain ⟨s', r, q⟩ := runK_ok E
  rw [fList_id fObj_id, seenQ_eq] at q
  exact ⟨s'.abs, r, Option.some.inj q⟩

theorem evalTop (w : World) (os : OsState) : (fSh (bootS w.params os) fun s => fList fObj (boot_heap w.params).objs.toList fun l => fNat l.length fun n₀ => fOpt fVal ((boot_heap w.params).nsMap mainGlobals "__annotations__") fun ann =>
    runK 100 pw w n₀ ann (fun s => fList fObj (s.tree.list s.n) fun l' => some (staticsOk (importedModules pw.main.body) ⟨⟨l⟩, (boot_heap w.params).life⟩ ⟨⟨l'⟩, s.life⟩ && namesBound pw ⟨⟨l'⟩, s.life⟩ && gensDone ⟨⟨⟨l'⟩, s.life⟩, s.gens, s.drawn, s.toks, s.os⟩ && laidKept ⟨⟨l⟩, (boot_heap w.params).life⟩ ⟨⟨l'⟩, s.life⟩,
        seenQ qv [] (importedModules pw.main.body) Xt true ⟨⟨⟨l'⟩, s.life⟩, s.gens, s.drawn, s.toks, s.os⟩, (kHook KK KA KK_at).obs ⟨⟨⟨l'⟩, s.life⟩, s.gens, s.drawn, s.toks, s.os⟩)) 7106 s (topStub pw)) = some (true, openGood qv [], (kHook KK KA KK_at).val w) := by kernel_rfl
theorem open0 : ∀ w : World, (fencedOpening treeTable pw w 7106).map (fun s => (s.heap, s.gens, s.drawn, s.toks)) = some (boot_heap w.params, Array.mk [], boot_drawn, boot_toks) :=
  boot_open (by kernel_rfl) (by decide +kernel) (fun s => by kernel_rfl)
theorem bootAbs (w : World) (os : OsState) : (bootS w.params os).abs = ⟨boot_heap w.params, #[], boot_drawn, boot_toks, os⟩ := by kernel_rfl
theorem bootNs (w : World) : ((boot_heap w.params).isNs mainGlobals && (Array.mk [] : Array GenState).size == 0) = true := by kernel_rfl
theorem left : LeftO pw qv [] Xt (kHook KK KA KK_at).obs (kHook KK KA KK_at).val 7106 true :=
  left_of open0 bootNs fun w os => run_of (bootAbs w os) rfl (evalTop w os)
end Mine

end
section
open PySem PySem.W PySem.Calls PyProof.Rows
set_option maxRecDepth 100000
set_option maxHeartbeats 8000000
namespace Mine
noncomputable def fnP : Stmt → Pos
  | .FunctionDef _ _ _ _ _ _ _ _ _ p => p
  | _ => default
noncomputable def dLaw : DefRec := ⟨Str.ofString "law", fnA (top 31), fnB (top 31), fnS (top 31), fnP (top 31)⟩
noncomputable abbrev HK : Hook := kHook KK KA KK_at
theorem head (hc : WalkO qv [] (XL qv []) HK.says rw' dLaw [] fun f vs => PySem.call f vs) : PySem.Challenge.rw_ji0023_01.Holds := by
  refine holds_law (by decide +kernel) fun said => ?_
  refine holds_open (q := qv) (loose := []) (Xt := Xt) (XP := XL qv []) (Yf := HK.obs) (Ya := HK.val) (YP := HK.says) (N := 7106) (d := dLaw) (kwd := []) left HK.of HK.keeps (fun s e => xl_of s (Bool.and_eq_true_iff.mp e).1) XL.keeps (by kernel_rfl) (by kernel_rfl) (by rfl) (fun s e => recFacts_of (Bool.and_eq_true_iff.mp e).2) (by rfl) said (by decide +kernel) ⟨rfl, rfl, rfl, rfl, rfl, by decide +kernel⟩ ?hw hc
  case hw => exact ⟨[.list [.int 3, .int 1]], by decide +kernel, by decide +kernel⟩
end Mine

end
section
open PySem PySem.W PySem.Calls PyProof.Rows
set_option maxRecDepth 100000
set_option linter.all false
namespace Mine
theorem gtK (P : Params) : gtB (KK P) = true := by kernel_rfl
theorem attK (P : Params) : attB (KK P) = true := by kernel_rfl
theorem methK (P : Params) : methB (KK P) = true := by kernel_rfl
theorem calK (P : Params) : calB (KK P) = true := by kernel_rfl
theorem iniK (P : Params) : iniB (KK P) = true := by kernel_rfl
theorem excK (P : Params) : excB (KK P) = true := by kernel_rfl
theorem lawUn : fnB (top 31) = lawB.un := by kernel_rfl
theorem lawSc : (fnS (top 31)).names = kinds lawN := by kernel_rfl
theorem lawOk : lawB.ok lawN = true := by decide +kernel
theorem lawCell (a : Addr) : cellsFrom a (fnS (top 31)).names [] = [(nm .kread, a)] := by kernel_rfl
theorem lawLoc : (fnS (top 31)).names.lookup (nm .kscript) = some .local := by kernel_rfl
theorem lawDef : dLaw.params.defaults = [] := by kernel_rfl
theorem ints_vrs {h : Heap} {xs : List Value} {ns : List Int} (H : IntsAre xs ns) : VRs h (ns.map .int) xs := by
  induction H with
  | nil => rfl
  | cons n t _ ih => exact ⟨_, _, rfl, ⟨t, rfl⟩, ih⟩
theorem law_entry {prog : Program} {w : World} {s₁ : Shared} {fd : FuncData} {fa sa : Addr} {o : Obj} {xs : List Value} {ns : List Int} {R : Result → Shared → Prop}
    (KX : (KK w.params).In s₁.heap) (gl : ∃ mg, s₁.heap.Ns mainGlobals mg) (bl : ∃ mb, s₁.heap.Ns builtinsNs mb ∧ ∀ x : Str, x ≠ "__name__" → mb x = bootBuiltins x) (nl : s₁.heap.NoLimit) (hg : s₁.gens = #[])
    (ho : s₁.heap.get? fa = some o) (hd : o.data = .func fd) (hcd : s₁.heap.CodeRec fd.code fd.qualname) (hbody : fd.body = .stmts (fnB (top 31))) (hsc : fd.scope = fnS (top 31)) (hglob : fd.globals = mainGlobals) (hbi : fd.builtins = builtinsNs) (hclo : fd.closure = [])
    (hbind : bindArgs fd ⟨[.ref sa], []⟩ = pure [(nm .kscript, .ref sa)]) (hL : s₁.heap.IsList sa xs.toArray) (hI : IntsAre xs ns) (hl : ns.length ≤ 63)
    (hR : ∀ s', (∀ b o, s₁.heap.get? b = some o → s'.heap.get? b = some o) → s'.os = s₁.os → s'.gens = #[] → R (.ok (.ret (.bool true))) s') : codeAny (model prog w) callerA (.call (.ref fa) ⟨[.ref sa], []⟩) R s₁ := by
  have hk : (callEnvC fd s₁.heap.objs.size fa).kindOf (nm .kscript) = some .local := by show fd.scope.names.lookup _ = _; rw [hsc]; exact lawLoc
  refine codeAny_call_cells (by show 1 + claimMargin < 1000; decide) ho hd nl hcd hbody hbind hclo (fun x hx => ?_) (fun s' x => ?_) (by rw [hsc]; rfl) (by rw [hsc]; rfl) (by rw [hsc]; rfl)
  · rw [List.mem_singleton] at hx; subst hx
    exact .inl (by rw [hsc]; exact lawLoc)
  have hcells : (callEnvC fd s₁.heap.objs.size fa).cells = [(nm .kread, s₁.heap.objs.size + 1)] := by show cellsFrom _ fd.scope.names [] = _; rw [hsc]; exact lawCell _
  have eL : bindL (callEnvC fd s₁.heap.objs.size fa).kindOf [(nm .kscript, .ref sa)] (fun _ => none) = fun y => if y = nm .kscript then some (.ref sa) else none := if_pos hk
  have eC : bindC (callEnvC fd s₁.heap.objs.size fa).kindOf [(nm .kscript, .ref sa)] (fun _ => none) = fun _ => none := if_pos hk
  rw [eL, eC] at x
  have hcl : (callEnvC fd s₁.heap.objs.size fa).cells.lookup (nm .kread) = some (s₁.heap.objs.size + 1) := by rw [hcells]; kernel_rfl
  have hce := x.cell _ _ hcl
  have none_ : ∀ a, s₁.heap.objs.size ≤ a → s₁.heap.get? a = none := fun a ha => by
    cases q : s₁.heap.get? a with
    | none => rfl
    | some o => exact absurd (Heap.lt_size q) (Nat.not_lt.mpr ha)
  obtain ⟨h', tk, e'⟩ := x.toInCall.same
  let E' : Value → Shared → Prop := fun e s' => wpAny (model prog w) (callerA.deeper (callEnvC fd s₁.heap.objs.size fa)) (leaving (callEnvC fd s₁.heap.objs.size fa) e) (fun _ s'' => R (.error e) s'') (fun e' s'' => R (.error e') s'') s'
  let c : Cx := ⟨prog, w, KK w.params, callerA.deeper (callEnvC fd s₁.heap.objs.size fa), callEnvC fd s₁.heap.objs.size fa, s₁.heap, s₁.os, s₁.heap, [], E', fun _ _ => False⟩
  have ok : c.Ok := {
    nodup := List.nodup_cons.mpr ⟨fun h => (by cases h), List.nodup_nil⟩
    newF := fun L hL => by rw [List.mem_singleton.mp hL]; exact none_ _ (Nat.le_refl _)
    kin := KX, gt := gtK _, att := attK _, meth := methK _, cal := calK _, ini := iniK _, exc := excK _, gl := gl, bl := bl, nolimit := nl
    kind := by show fd.scope.kind = _; rw [hsc]; rfl
    globals := hglob, builtins := hbi, frame := rfl, stack := Around.frames_deeper rfl, outOk := fun _ h => (by cases h)
    passes := PassesOwn.leaving (Q₁ := fun e s'' => R (.error e) s'') (E₁ := fun e' s'' => R (.error e') s'')
    hE := fun _ _ _ _ _ _ h => h.elim }
  have calls : c.Calls 6 := ⟨rfl, by show 1 + claimMargin + 1 + 2 * 6 ≤ 990; decide, by show 4 + 3 + 6 * 6 ≤ 9000; decide⟩
  have ev : Evo s₁.heap s'.heap := .of_keep x.toInCall.keep
  have rel : Rel c ⟨[(.kscript, .ref sa)], fun a => if a = s₁.heap.objs.size + 1 then some (.cell none) else none⟩ s' := {
    keep := x.toInCall.keep
    outs := fun _ h => (by cases h)
    cur := ⟨_, x.toInCall.ns⟩
    new := fun a o h => by
      by_cases q : a = s₁.heap.objs.size + 1
      · subst q; exact none_ _ (Nat.le_succ _)
      · dsimp only at h; rw [if_neg q] at h; cases h
    objs := fun a o h => by
      by_cases q : a = s₁.heap.objs.size + 1
      · dsimp only at h; rw [if_pos q] at h; cases h; subst q
        obtain ⟨ob, h1, h2⟩ := hce
        exact ⟨ob, h1, h2⟩
      · dsimp only at h; rw [if_neg q] at h; cases h
    dinj := fun a a' C fs C' fs' o o' d h => by
      by_cases q : a = s₁.heap.objs.size + 1
      · dsimp only at h; rw [if_pos q] at h; cases h
      · dsimp only at h; rw [if_neg q] at h; cases h
    evo0 := ev
    gens := by rw [e']; exact hg
    os := by rw [e']
    locs := ⟨_, x.toInCall.ns, fun n v h => by
      unfold lk at h
      by_cases q : n = .kscript
      · dsimp only at h; rw [if_pos q] at h; cases h; subst q; exact ⟨.ref sa, if_pos rfl, rfl⟩
      · dsimp only at h; rw [if_neg q] at h; cases h⟩ }
  have walk : WSs c (fnB (top 31)) ⟨[(.kscript, .ref sa)], fun a => if a = s₁.heap.objs.size + 1 then some (.cell none) else none⟩ fun fl _ => fl = .ret (.bool true) :=
    enterB ok calls (sc := fnS (top 31)) hsc lawSc lawUn lawOk fun r => law_walk r rfl calls ⟨xs, hL, ints_vrs hI⟩ hl hcl (if_pos rfl) fun _ => rfl
  refine wpAny_mono (walk s' rel) (fun f s'' ⟨fl, σ', h1, R1, e1, q⟩ => ?_) fun e s'' h => h
  subst q
  obtain ⟨u, rfl, hu⟩ := h1
  cases hu
  exact hR s'' R1.keep R1.os R1.gens
theorem walk : WalkO qv [] (XL qv []) HK.says rw' dLaw [] fun f vs => PySem.call f vs := by
  intro w s₀ s₁ mg mb G Y fa o pm cd doc dV kV ho hd hcd hD hmg hg args vals as hpre hlay hrd hwl hlo
  have KX := kIn_of Y
  obtain ⟨rfl, rfl⟩ : dV = .none ∧ kV = .none := ⟨hD.pos.elim (·.2) fun h => absurd lawDef h.1, hD.kw.elim (·.2) fun h => absurd rfl h.1⟩
  wrow_args hpre hlay hrd hwl hlo
  rename_i ns _ _ _ _ _ _ _ sa xs _ hL _ _ _ hI _ hc _
  refine enter_call (law_entry KX ⟨_, G.T.g⟩ ⟨_, G.T.b, G.T.builtins⟩ G.T.nolimit hg ho hd hcd rfl rfl rfl rfl rfl (by kernel_rfl) hL hI (by omega) fun s' k ho2 hg2 => ?_)
  exact ⟨.inl ⟨.bool true, .bool true, [], rfl, raisesW_false allW_false_nil, .bool true, (by wrow_post), fun _ => ⟨List.nodup_nil, fun _ h => nomatch h⟩⟩, .of_keep k, ho2, .of_eq hg2⟩
end Mine

end
theorem PySem.Challenge.cw_ji0023_01_holds : PySem.Challenge.rw_ji0023_01.Holds :=
  Mine.head Mine.walk
