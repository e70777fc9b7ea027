/- Parts R3a. -/
import Derived.Test.YtfkecmlmnhbmoaaGreatDoorW1
import Derived.Lib.LaidIn
import Derived.Deep.DeepWitnessRowRef
import Derived.Test.YtfkecmlmnhbmoaaGreatDoorRows
set_option linter.unusedVariables false
set_option linter.unusedSimpArgs false
set_option maxRecDepth 100000
set_option maxHeartbeats 40000000
namespace Go.Proofs.YtfkecmlmnhbmoaaGreatDoor
open Go Go.RowKit
mutual
def flatD:DataW Unit→List Value
 | .lit (.int k n)=>[.int k n]
 | .lit (.float k n)=>[.float k n]
 | .lit (.bool b)=>[.bool b]
 | .lit (.string s)=>[.string ⟨s.toArray⟩]
 | .agg ds=>flatDs ds
 | .slice ds _=>flatDs ds
 | .iface _ d=>flatD d
 | .ptr d=>flatD d
 | _=>[]
def flatDs:List (DataW Unit)→List Value
 | []=>[]
 | d::ds=>flatD d++flatDs ds
end
def putG (h:Array Obj)(g:Nat)(cs:Array Value):Array Obj:=h.modify g fun
 | .cells _ t frozen=>.cells cs t frozen
 | o=>o
noncomputable def laidWorld (os:Os):World :=
 let N:=(World.settled Tryz.prog os).heap.size
 let w0:=World.holding Tryz.prog os ⟨#[.cells (flatD Rows.laid_internal_strconv_powtab).toArray 3,
  .cells (flatD Rows.laid_internal_strconv_float64pow10).toArray 22,
  .cells (flatD Rows.laid_internal_strconv_float32pow10).toArray 138,
  .cells (flatD Rows.laid_strconv_ErrRange).toArray 235,
  .cells (flatD Rows.laid_strconv_ErrSyntax).toArray 235,
  .cells (flatD Rows.laid_encoding_hex_ErrLength).toArray 235,
  .cells (flatD Rows.laid_given_example_pub_foolscap_pub_pdfcpu_pkg_pdfcpu_model_ErrDictionaryCorrupt).toArray 235,
  .cells (flatD Rows.laid_given_example_pub_foolscap_pub_pdfcpu_pkg_pdfcpu_model_errArrayCorrupt).toArray 235,
  .cells (flatD Rows.laid_given_example_pub_foolscap_pub_pdfcpu_pkg_pdfcpu_model_errArrayNotTerminated).toArray 235,
  .cells (flatD Rows.laid_given_example_pub_foolscap_pub_pdfcpu_pkg_pdfcpu_model_errDictionaryNotTerminated).toArray 235,
  .cells (flatD Rows.laid_given_example_pub_foolscap_pub_pdfcpu_pkg_pdfcpu_model_errHexLiteralCorrupt).toArray 235,
  .cells (flatD Rows.laid_given_example_pub_foolscap_pub_pdfcpu_pkg_pdfcpu_model_errHexLiteralNotTerminated).toArray 235,
  .cells (flatD Rows.laid_given_example_pub_foolscap_pub_pdfcpu_pkg_pdfcpu_model_errNameObjectCorrupt).toArray 235,
  .cells (flatD Rows.laid_given_example_pub_foolscap_pub_pdfcpu_pkg_pdfcpu_model_errNoArray).toArray 235,
  .cells (flatD Rows.laid_given_example_pub_foolscap_pub_pdfcpu_pkg_pdfcpu_model_errNoDictionary).toArray 235,
  .cells (flatD Rows.laid_given_example_pub_foolscap_pub_pdfcpu_pkg_pdfcpu_model_errStringLiteralCorrupt).toArray 235,
  .cells (flatD Rows.laid_given_example_pub_foolscap_pub_pdfcpu_pkg_pdfcpu_model_errBufNotAvailable).toArray 235,
  .cells (flatD Rows.laid_given_example_pub_foolscap_pub_pdfcpu_pkg_pdfcpu_model_ErrMaxRecursionDepthExceeded).toArray 235,
  .cells (flatD Go.Pinned.leftcheats).toArray 287],#[],[]⟩
 let h0:=putG w0.heap 24 (flatD Rows.laid_math_bits_deBruijn32tab).toArray
 let h1:=putG h0 25 (flatD Rows.laid_math_bits_deBruijn64tab).toArray
 let h2:=putG h1 10 (flatD Rows.laid_internal_strconv_float32info).toArray
 let h3:=putG h2 11 (flatD Rows.laid_internal_strconv_float64info).toArray
 let h4:=putG h3 4 (flatD Rows.laid_internal_strconv_optimize).toArray
 let h5:=putG h4 19 #[.slice (some ⟨N+0,0,none⟩) 9 9]
 let h6:=putG h5 20 #[.slice (some ⟨N+1,0,none⟩) 23 23]
 let h7:=putG h6 18 #[.slice (some ⟨N+2,0,none⟩) 11 11]
 let h8:=putG h7 12 (flatD Rows.laid_internal_strconv_uint64pow10).toArray
 let h9:=putG h8 27 (flatD Rows.laid_unicode_utf8_acceptRanges).toArray
 let h10:=putG h9 3 #[.iface 233 (.pointer (some ⟨N+3,0,none⟩))]
 let h11:=putG h10 2 #[.iface 233 (.pointer (some ⟨N+4,0,none⟩))]
 let h12:=putG h11 23 #[.iface 233 (.pointer (some ⟨N+5,0,none⟩))]
 let h13:=putG h12 14 #[.iface 233 (.pointer (some ⟨N+6,0,none⟩))]
 let h14:=putG h13 6 #[.iface 233 (.pointer (some ⟨N+7,0,none⟩))]
 let h15:=putG h14 7 #[.iface 233 (.pointer (some ⟨N+8,0,none⟩))]
 let h16:=putG h15 15 #[.iface 233 (.pointer (some ⟨N+9,0,none⟩))]
 let h17:=putG h16 16 #[.iface 233 (.pointer (some ⟨N+10,0,none⟩))]
 let h18:=putG h17 17 #[.iface 233 (.pointer (some ⟨N+11,0,none⟩))]
 let h19:=putG h18 8 #[.iface 233 (.pointer (some ⟨N+12,0,none⟩))]
 let h20:=putG h19 5 #[.iface 233 (.pointer (some ⟨N+13,0,none⟩))]
 let h21:=putG h20 13 #[.iface 233 (.pointer (some ⟨N+14,0,none⟩))]
 let h22:=putG h21 9 #[.iface 233 (.pointer (some ⟨N+15,0,none⟩))]
 let h23:=putG h22 0 #[.iface 233 (.pointer (some ⟨N+16,0,none⟩))]
 let h24:=putG h23 1 #[.iface 233 (.pointer (some ⟨N+17,0,none⟩))]
 let h25:=putG h24 22 #[.slice (some ⟨N+18,0,none⟩) 61 61]
 let h26:=putG h25 21 (flatD Go.Pinned.pow10Tab).toArray
 let h27:=putG h26 26 (flatD Go.Pinned.utf8First).toArray
 { w0 with heap:=h27 }
noncomputable def witW (os:Os):World:=((laidWorld os).forCall (fun _ _=>0) ⟨#[],#[.string ⟨#[]⟩],[]⟩)
noncomputable def varF (w:World)(g:Nat):Bool :=
 match ((begin Tryz.prog (fun _ _=>0) default).world.heap[g]?).bind Obj.row? with
 | none=>true
 | some (zero,t) =>
  match w.heap[g]? with
  | some (.cells cs t' frozen)=>decide (t'=t)&&decide (frozen=(0,0))&&cs.size==zero.size&&(!Tryz.prog.buildable t||Row.okRefB Tryz.prog w t cs)
  | _=>false
theorem pow_cells:((flatD Go.Pinned.pow10Tab).all fun v=>match v with | .int .u64 n=>decide (0≤n)&&decide (n≤18446744073709551615)|_=>false)=true:=by kernel_rfl
theorem pow_len:(flatD Go.Pinned.pow10Tab).length=1392:=by kernel_rfl
theorem pow_row (w:World):Row.okRefB Tryz.prog w 282 (flatD Go.Pinned.pow10Tab).toArray=true:=by
 have ht:Tryz.prog.cellTypes Tryz.prog.depth 282=some (List.replicate 1392 171):=by kernel_rfl
 unfold Row.okRefB;rw[ht];simp only[List.length_replicate,List.size_toArray,pow_len,Bool.and_eq_true,List.all_eq_true,List.mem_range];refine⟨by decide,fun i hi=>?_⟩
 have hv:(flatD Go.Pinned.pow10Tab).toArray[i]?=some ((flatD Go.Pinned.pow10Tab)[i]'(by rw[pow_len];exact hi)):=by
  rw[List.getElem?_toArray];exact List.getElem?_eq_getElem _
 have hu:(List.replicate 1392 (171:TypeId))[i%1392]?=some 171:=by
  rw[List.getElem?_replicate,if_pos (Nat.mod_lt _ (by decide))]
 rw[hv,hu];have hm:=List.all_eq_true.1 pow_cells _ (List.getElem_mem (l:=flatD Go.Pinned.pow10Tab) (by rw[pow_len];exact hi));simp only;generalize (flatD Go.Pinned.pow10Tab)[i]'(by rw[pow_len];exact hi)=v at hm⊢;have hun:Tryz.prog.underlying 171=some (.int .u64):=by kernel_rfl
 match v,hm with
 | .int .u64 n,hm =>
  simp only[Bool.and_eq_true,decide_eq_true_eq]at hm;have hmx:IntKind.u64.max=18446744073709551615:=by decide
  have hmn:IntKind.u64.min=0:=by decide
  simp[Cell.okRefB,Cell.okB,hun,IntKind.has,hmx,hmn,hm]
theorem wit_heap21 (os:Os):(witW os).heap[21]?=some (.cells (flatD Go.Pinned.pow10Tab).toArray 282 (0,0)):=by kernel_rfl
theorem wit_zero:∃zero:Array Value,((begin Tryz.prog (fun _ _=>0) default).world.heap[21]?).bind Obj.row?=some (zero,282)∧zero.size=1392:=⟨(List.replicate 1392 (Value.int .u64 0)).toArray,by kernel_rfl,by rw[List.size_toArray,List.length_replicate]⟩
theorem wit_cells (os:Os):∃cs:Array Value,(witW os).heap[21]?=some (.cells cs 282 (0,0))∧cs.size=1392∧Row.okRefB Tryz.prog (witW os) 282 cs=true:=⟨_,wit_heap21 os,by rw[List.size_toArray,pow_len],pow_row _⟩
theorem wit_var21 (os:Os):varF (witW os) 21=true:=by
 obtain⟨zero,h0,hz⟩:=wit_zero;obtain⟨cs,h1,h2,h3⟩:=wit_cells os;unfold varF;rw[h0,h1]
 show (decide ((282:TypeId)=282)&&decide (((0,0):Nat×Nat)=(0,0))&&(cs.size==zero.size)&&(!Tryz.prog.buildable 282||Row.okRefB Tryz.prog (witW os) 282 cs))=true
 rw[h2,hz,h3];generalize Tryz.prog.buildable 282=b
 cases b<;>rfl
theorem wit_varsR (os:Os):(((List.range 29).filter (· != 21)).all (varF (witW os)))=true:=by kernel_rfl
theorem varF_all (w:World):w.variablesRefB Tryz.prog=(List.range Tryz.prog.globals.size).all (varF w):=by
 simp only[World.variablesRefB];refine congrArg (List.all _) (funext fun g=>?_);unfold varF;generalize ((begin Tryz.prog (fun _ _=>0) default).world.heap[g]?).bind Obj.row?=a;generalize w.heap[g]?=b;rcases a with _|⟨zero,t⟩
 ·rfl
 ·rcases b with _|o
  ·rfl
  ·cases o<;>rfl
theorem wit_vars (os:Os):(witW os).variablesRefB Tryz.prog=true:=by
 have hs:Tryz.prog.globals.size=29:=by kernel_rfl
 rw[varF_all,hs,List.all_eq_true];intro g hg
 by_cases h:g=21
 ·rw[h];exact wit_var21 os
 ·exact List.all_eq_true.1 (wit_varsR os) g (List.mem_filter.2 ⟨hg,by simpa using h⟩)
theorem wit_rest (os:Os):((witW os).heap.toList.drop Tryz.prog.globals.size).take ((begin Tryz.prog (fun _ _=>0) default).world.heap.size-Tryz.prog.globals.size)=(begin Tryz.prog (fun _ _=>0) default).world.heap.toList.drop Tryz.prog.globals.size:=by kernel_rfl
end Go.Proofs.YtfkecmlmnhbmoaaGreatDoor
